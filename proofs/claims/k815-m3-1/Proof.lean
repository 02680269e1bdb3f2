import JvmDerived
import JvmDerived.Pilot.@@N@@Statement
import JvmDerived.Pilot.@@N@@Code
set_option linter.unusedVariables false
set_option linter.unusedSimpArgs false
namespace Jvm.RoadKit
open Sem ClassFile Op Lib Jvm.Stand Jvm.Free Jvm.LawKit
section New
variable {p : Program} {l : Launch} {e : Env} {R : Room} {s : State} {m : MethodId} {args : Array Value} {below : List Frame} {meth : Method} {c : Code} {T : State} {locs : List Loc} {cells slots : Nat}
theorem retI (X : Stand p l e R s m args below meth c T locs cells slots) (hx : p.tables.exec = Jvm.exec) {pc : Nat} {Ls : Array Slot} {z : Int32} {rest : List Value} (hret : meth.sig.returnType = some .int) (hd : decode c.code pc = .ok (.ireturn, 1)) {fs : List Frame}
    (hl : ∀ (f : JFrame) (acts : List Action), f.method = m → f.locked = none → f.entered = [] → (doReturn e (T.setTop f) acts (some (.int z))).1 = T.setFrames fs) : Steps p.tables e below (T.setTop (mkF m pc Ls (.int z :: rest))) (T.setFrames fs) := by
  have hm' : T.vm.method? m = some meth := X.method'
  have hn : narrow .int (.int z) = .int z := rfl
  show Steps p.tables e below (T.setTop { method := m, pc := pc, locals := Ls, stack := _ :: rest, locked := none }) _
  jvm_step X.here [X.here.top, hx, hd, hm', hret, hn]
  first | (intro acts; rw [hl _ acts rfl rfl rfl]) | rw [hl _ _ rfl rfl rfl]
  exact Steps.refl _
end New
end Jvm.RoadKit
namespace Jvm.RoadKit
open Sem ClassFile Op Lib Jvm.Stand Jvm.Free Jvm.LawKit
section OwnRefs
variable {p : Program} {l : Launch} {e : Env} {R : Room} {s Z : State} {a0 : Array Value} {m : MethodId} {args : Array Value} {below : List Frame} {meth : Method} {c : Code} {T : State} {locs : List Loc} {cells slots : Nat} {h : Heap}
/-- a field through a resolved entry (the word fieldRef) -/
theorem own_getR (X : Stand p l e R s m args below meth c T locs cells slots) (hx : p.tables.exec = Jvm.exec) (hZ : Z.Warmed39 s.vm) {own O n d : String} {index : Nat} (hown : s.vm.findClass own = some m.cls) (w : (Cond.fieldRef own index O n d).before a0 Z = true)
    (eT : T.heap = h) {a : Addr} {v : Value} (F : Fld Z h a O n d v) {g : JFrame} (hg : g.method = m) {rest : List Value} (hs : g.stack = .ref a :: rest) (hd : decode c.code g.pc = .ok (.getfield index, 3)) : ∃ T', Stand p l e R s m args below meth c T' locs cells slots ∧ T'.heap = h ∧ ∀ target, Steps p.tables e below (T'.setTop { g with pc := g.pc + 3, stack := v :: rest }) target → Steps p.tables e below (T.setTop g) target := by
  obtain ⟨cell, cf, k, i, f, h1, h2, h3, h4, -, -, h7⟩ := F
  have hU : Z.Warmed39 T.vm := wtrans hZ X.warmed
  have w1 := Cond.fieldRef_warmed39 hU w
  have hcur : (Z.setVm T.vm).vm.findClass own = some m.cls := by
    show T.vm.findClass own = _
    rw [X.warmed.alike.findClass]; exact hown
  obtain ⟨c', k', i', f', q1, q2⟩ := Cond.fieldRef_spec hcur w1
  obtain ⟨k2, hi, -⟩ := State.fieldFound?_setVm (s := Z) hU.alike h2
  have hi' : (Z.setVm T.vm).fieldFound? O n d = some (cf, k2, i, f) := hi
  cases hi'.symm.trans q1
  refine ⟨T, X, eT, fun target hrest => ?_⟩
  subst hg
  jvm_step X.here [hx, hd, getfield.wp_ready (e := e) (s := T) (f := g) X.here.top q2 h3 hs (show T.heap[a]? = some cell by rw [eT]; exact h1) h4 h7]
  exact hrest
/-- a constructor through a resolved entry (the word methodRef) -/
theorem own_specR (X : Stand p l e R s m args below meth c T locs cells slots) (hexec : p.tables.exec = Jvm.exec) (hZ : Z.Warmed39 s.vm) {own : String} {index : Nat} {y : MethodName} (hy1 : y.name = "<init>")
    (hown : s.vm.findClass own = some m.cls) (wr : (Cond.methodRef own index y).before a0 Z = true) (wi : (Cond.instanceMethod y).before a0 Z = true)
    {bytes : ByteArray} {maxL : Nat} (wc : (Cond.code y bytes maxL none).before a0 Z = true)
    (hy : y.cls ≠ "java/lang/invoke/MethodHandle" ∧ y.cls ≠ "java/lang/invoke/VarHandle")
    {W : Nat} {Pre : Pt → Array Value → Prop} {Post : Pt → Array Value → Option Value → Pt → Prop} (hK : Back l R p e below s args y 3 W Pre Post)
    {g : JFrame} (hg : g.method = m) (hsize : g.locals.size = c.maxLocals) {s₀ : State} (hcome : Steps p.tables e below s₀ (T.setTop g)) {a : Addr} {argsL rest : List Value}
    (hlen : ∀ sig, parseMethodDescriptor y.desc = some sig → argsL.length = sig.parameters.length) (hstack : g.stack = argsL.reverse ++ .ref a :: rest) (hW : 2 * g.monitorRoom + (rest.map fun v => v.category).sum ≤ W)
    (hdg : decode c.code g.pc = .ok (.invokespecial index, 3)) (hpre : ∀ vm₁, s.WarmedH vm₁ → Pre ⟨T.setVm vm₁, locs, cells, slots⟩ (.ref a :: argsL).toArray) :
    ∃ (v : Option Value) (vm₁ : Vm) (B : Pt), s.WarmedH vm₁ ∧ Stand p l e R s m args below meth c B.U B.locs B.cells B.slots ∧ Post ⟨T.setVm vm₁, locs, cells, slots⟩ (.ref a :: argsL).toArray v B ∧
      Steps p.tables e below s₀ (B.U.setTop { g with pc := g.pc + 3, stack := v.toList ++ rest }) := by
  have hU : Z.Warmed39 T.vm := wtrans hZ X.warmed
  obtain ⟨obj, methO, hnZ, hmZ, hstO, habO⟩ := Cond.instanceMethod_spec wi
  obtain ⟨methO', cO, hmO', hcO, hbO, hlO, -, hlockO, -, hsigO⟩ := Cond.code_spec hnZ wc
  cases hmZ.symm.trans hmO'
  obtain ⟨kO, hkO, hnameO⟩ := className_of_methodNamed hnZ
  obtain ⟨hnameMO, hdescO⟩ := name_of_methodNamed hnZ hmZ
  have hnS : s.methodNamed? y = some obj := by
    have q : (Z.setVm s.vm).methodNamed? y = some obj := by rw [State.methodNamed?_setVm hZ.alike]; exact hnZ
    exact q
  have hcur : (Z.setVm T.vm).vm.findClass own = some m.cls := by
    show T.vm.findClass own = _
    rw [X.warmed.alike.findClass]; exact hown
  obtain ⟨m0, c', q1, q2, q3, q4⟩ := Cond.methodRef_named e hcur (Cond.methodRef_warmed39 hU hnZ hy wr)
  have q1' := State.methodFound?_of_named (s := Z.setVm T.vm) (show (Z.setVm T.vm).methodNamed? y = some obj by rw [State.methodNamed?_setVm hU.alike]; exact hnZ) hy
  cases q1'.symm.trans q1
  have hc' : c' = obj.cls := by
    have q5 : T.vm.findClass y.cls = some c' := q3
    rw [hU.alike.findClass, findClass_of_methodNamed hnZ] at q5
    exact (Option.some.inj q5).symm
  subst hc'
  obtain ⟨kO₂, hkO₂, heO₂⟩ := hU.alike.2.2 _ _ hkO
  have hmO₂ : T.vm.method? obj = some methO := by rw [hU.alike.method?]; exact hmZ
  have hfound : lookupSpecial T.vm obj.cls "<init>" methO.desc = .method obj := by
    rw [hU.alike.lookupSpecial, hdescO, ← hy1]; exact lookupSpecial_of_named hnZ hmZ hstO
  have hstep : ∀ target, (∀ acts, Steps p.tables e below (doInvoke e (T.setTop { g with stack := rest }) acts obj (.ref a :: argsL).toArray).1 target) → Steps p.tables e below (T.setTop g) target := by
    intro target hrest
    subst hg
    jvm_step X.here [hexec, hdg, invokespecial.wp_init (e := e) (s := T) (k := kO₂) (meth := methO) (m := obj) (a := a) (args := argsL) (rest := rest) (f := g) X.here.top q4 q2 hkO₂ hmO₂ (by rw [hnameMO]; exact hy1) hstO habO hfound (hlen _ hsigO) hstack]
    exact hrest
  have eT : T.setVm T.vm = T := rfl
  obtain ⟨v, B, X', hpost, hsteps⟩ := hK m meth c ⟨T, locs, cells, slots⟩ { g with stack := rest } (.invokespecial index) obj (Value.ref a :: argsL).toArray X hg hsize hdg hW (X.named hnS) (show Pre ⟨T, locs, cells, slots⟩ (Value.ref a :: argsL).toArray from hpre T.vm X.warmed)
  exact ⟨v, T.vm, B, X.warmed, X', hpost, (hcome.trans (hstep _ fun acts => by rw [doInvoke_state]; exact Steps.refl _)).trans hsteps⟩
/-- dup2_x1 of a long above a reference -/
theorem own_dup2x1 {tb : Tables} [Ours tb] {T target : State} {g : JFrame} (h : At T m c below) (hx : tb.exec = Jvm.exec) (hg : g.method = m) {x : Int64} {y : Addr} {rest : List Value} (hd : decode c.code g.pc = .ok (.dup2_x1, 1)) (hs : g.stack = .long x :: .ref y :: rest)
    (hr : Steps tb e below (T.setTop { g with pc := g.pc + 1, stack := .long x :: .ref y :: .long x :: rest }) target) : Steps tb e below (T.setTop g) target := by
  subst hg
  jvm_step h [h.top, hx, hd, hs, Value.category]
  exact hr
theorem own_selp {C : String} {x z y : MethodName} (hsel : (Cond.selects C x z).before a0 Z = true) (e0 : z.cls = y.cls) (hp : (Cond.privateMethod y).before a0 Z = true) (hi : (Cond.instanceMethod y).before a0 Z = true) (hy : y.cls ≠ "java/lang/invoke/MethodHandle" ∧ y.cls ≠ "java/lang/invoke/VarHandle") : (Cond.selects y.cls y y).before a0 Z = true := by
  obtain ⟨c2, r2, m2, q1, q2, q3, q4, kP, hkP, hkPi⟩ := Cond.selects_spec hsel
  have a1 := findClass_of_methodNamed q3
  rw [e0] at a1
  obtain ⟨mk, methM, hnamed, hmethM, -, -⟩ := Cond.instanceMethod_spec hi
  have a2 := findClass_of_methodNamed hnamed
  have e2 := Option.some.inj (a1.symm.trans a2)
  exact selects_self_of_private a2 (by rw [← e2]; exact hkP) hkPi (Cond.privateMethod_at hp) hi hy
end OwnRefs
end Jvm.RoadKit
namespace Jvm.Pilot.@@N@@
open Jvm Jvm.ClassFile Sem Op Lib Jvm.Free Jvm.Stand Jvm.LawKit Jvm.RoadKit Bundle Jvm.Pilot.@@N@@.Jvm.D
theorem own_go {tb : Tables} {e : Env} {below : List Frame} {A B : State} {P : State → Outcome → Prop} (st : ∀ t, Steps tb e below B t → Steps tb e below A t) (k : ∃ t o, Steps tb e below B t ∧ P t o) : ∃ t o, Steps tb e below A t ∧ P t o := by
  obtain ⟨t, o, h1, h2⟩ := k
  exact ⟨t, o, st t h1, h2⟩
theorem own_goT {tb : Tables} {e : Env} {below : List Frame} {A B : State} {P : State → Outcome → Prop} (st : Steps tb e below A B) (k : ∃ t o, Steps tb e below B t ∧ P t o) : ∃ t o, Steps tb e below A t ∧ P t o := by
  obtain ⟨t, o, h1, h2⟩ := k
  exact ⟨t, o, st.trans h1, h2⟩
theorem own_nameP {tb : Tables} {e : Env} {below : List Frame} {A : State} {Q : State → Outcome → Prop} (k : ∀ P : State → Outcome → Prop, P = Q → ∃ t o, Steps tb e below A t ∧ P t o) : ∃ t o, Steps tb e below A t ∧ Q t o := k Q rfl
theorem own_nfo {args : Array Value} {s : State} {C : String} {x y z : MethodName} (hsel : (Jvm.Cond.selects C x z).before args s = true) (e : z.cls = y.cls) : NotFace s y := fun r0 h0 => by
  obtain ⟨c2, r2, m2, q1, q2, q3, q4, kP, hkP, hkPi⟩ := Cond.selects_spec hsel
  have a1 := findClass_of_methodNamed q3
  have a2 := findClass_of_methodNamed h0
  rw [e] at a1
  have e2 := Option.some.inj (a1.symm.trans a2)
  exact ⟨kP, by rw [← e2]; exact hkP, hkPi⟩
theorem own_ifc {α : Type} {P R : Prop} [Decidable P] [Decidable R] (a b : α) (h : P ↔ R) : (if P then a else b) = (if R then a else b) := by
  by_cases q : P
  · rw [if_pos q, if_pos (h.mp q)]
  · rw [if_neg q, if_neg fun r => q (h.mpr r)]
theorem own_ne {a b : Nat} (h : a < b ∨ b < a) : a ≠ b := by omega
theorem own_ltn {a n : Nat} (h : a < n) : a < n := h
theorem own_keep_le {h h' : Heap} {ws : List Addr} (K : Keep h h' ws) : h.size ≤ h'.size := K.1
def own_up (n0 : Nat) (h : Heap) : List Addr := (List.range h.size).filter fun x => decide (n0 ≤ x)
theorem own_up_ge {n0 : Nat} {h : Heap} {x : Nat} (q : x ∈ own_up n0 h) : n0 ≤ x := by
  have := (List.mem_filter.mp q).2; simpa using this
theorem own_up_or {n0 : Nat} {h : Heap} {x : Nat} (q : n0 ≤ x) : x ∈ own_up n0 h ∨ h.size ≤ x := by
  by_cases z : x < h.size
  · exact Or.inl (List.mem_filter.mpr ⟨List.mem_range.mpr z, by simpa using q⟩)
  · exact Or.inr (Nat.le_of_not_lt z)
theorem own_lti {j z : Int32} (h1 : ¬ j < 0) (h2 : j < z) : j.toNatClampNeg < z.toNatClampNeg := by
  rw [Int32.lt_iff_toInt_lt] at h1 h2
  have e0 : (0 : Int32).toInt = 0 := rfl
  simp only [Int32.toNatClampNeg]; omega
/-- a list of as many values as z, each of them good -/
def own_G (P : Value → Prop) (dv : Value) (z : Int32) (vs : List Value) : Prop := vs.length = z.toNatClampNeg ∧ ∀ j : Int32, ¬ j < 0 → j < z → P (vs.getD j.toNatClampNeg dv)
theorem own_G.len {P : Value → Prop} {dv : Value} {z : Int32} {vs : List Value} (H : own_G P dv z vs) {j : Int32} (h : ¬ j < 0 ∧ j < z) : j.toNatClampNeg < vs.length := by rw [H.1]; exact own_lti h.1 h.2
theorem own_G.at {P : Value → Prop} {dv : Value} {z : Int32} {vs : List Value} (H : own_G P dv z vs) {j : Int32} (h : ¬ j < 0 ∧ j < z) : P (vs.getD j.toNatClampNeg dv) := H.2 j h.1 h.2
theorem own_G.set {P : Value → Prop} {dv : Value} {z : Int32} {vs : List Value} (H : own_G P dv z vs) (i : Nat) {v : Value} (hv : P v) : own_G P dv z (vs.set i v) := by
  refine ⟨by rw [List.length_set]; exact H.1, fun j h1 h2 => ?_⟩
  have q := H.2 j h1 h2
  simp only [List.getD_eq_getElem?_getD] at q ⊢
  by_cases u : i = j.toNatClampNeg
  · subst u
    rw [List.getElem?_set_self (H.len ⟨h1, h2⟩)]; exact hv
  · rw [List.getElem?_set_ne u]; exact q
theorem own_G.all {P : Value → Prop} {dv : Value} {z : Int32} {vs : List Value} (h1 : vs.length = z.toNatClampNeg) (h2 : ∀ v ∈ vs, P v) : own_G P dv z vs := by
  refine ⟨h1, fun j a b => ?_⟩
  have q : j.toNatClampNeg < vs.length := by rw [h1]; exact own_lti a b
  rw [List.getD_eq_getElem?_getD, List.getElem?_eq_getElem q]
  exact h2 _ (List.getElem_mem q)
theorem own_c0 {P : Value → Prop} : ∀ v ∈ ([] : List Value), P v := fun _ q => nomatch q
theorem own_cS {P : Value → Prop} {y : Value} {L : List Value} (q : P y) (r : ∀ x ∈ L, P x) : ∀ x ∈ y :: L, P x := fun x z => (List.mem_cons.mp z).elim (fun u => u ▸ q) (r x)
def own_pd (v : Value) : Prop := ∃ d : UInt64, v = .double d ∧ Jvm.Free.Fl.NoNaN64 d
def own_pj (v : Value) : Prop := ∃ x : Int64, v = .long x
def own_pn (v : Value) : Prop := v = .null
def own_pw (zN : Int32) (v : Value) : Prop := ∃ x : Int32, v = .int x ∧ ¬ x < 0 ∧ x < zN
def own_R (zN : Int32) (ff : Nat → Nat) (vs : List Value) : Prop := ∀ j : Int32, ¬ j < 0 → j < zN → vs.getD j.toNatClampNeg .null = .ref (ff j.toNatClampNeg)
theorem own_inf : Jvm.Free.Fl.NoNaN64 9218868437227405312 := by unfold Jvm.Free.Fl.NoNaN64; decide
theorem own_zero : Jvm.Free.Fl.NoNaN64 0 := by unfold Jvm.Free.Fl.NoNaN64; decide
theorem own_nni (x : Int32) : Jvm.Free.Fl.NoNaN64 (FP.i2d x) := nn_w (i2d_w x)
def own_N (zN z2 : Int32) : Prop := (zN = 2 ∧ z2 = 4) ∨ (zN = 4 ∧ z2 = 8) ∨ (zN = 8 ∧ z2 = 16)
theorem own_N.int {zN z2 : Int32} (H : own_N zN z2) : 2 ≤ zN.toInt ∧ zN.toInt ≤ 8 ∧ z2.toInt = 2 * zN.toInt := by
  rcases H with ⟨rfl, rfl⟩ | ⟨rfl, rfl⟩ | ⟨rfl, rfl⟩ <;> decide
theorem own_i2 {zN z2 nd : Int32} (H : own_N zN z2) (h1 : (0 : Int32) < nd) (h2 : nd < zN) : (¬ ((2 : Int32) * nd) < 0 ∧ ((2 : Int32) * nd) < z2) ∧ (¬ (((2 : Int32) * nd) + (1 : Int32)) < 0 ∧ (((2 : Int32) * nd) + (1 : Int32)) < z2) ∧ (¬ nd < 0 ∧ nd < z2) := by
  have q := H.int
  have c1 := c_imul 2 nd
  have c2 := c_iadd (2 * nd) 1
  have r1 := rng32 (2 * nd)
  have r2 := rng32 (2 * nd + 1)
  have e2 : (2 : Int32).toInt = 2 := rfl
  have e1 : (1 : Int32).toInt = 1 := rfl
  have e0 : (0 : Int32).toInt = 0 := rfl
  rw [Int32.lt_iff_toInt_lt] at h1 h2
  simp only [Int32.lt_iff_toInt_lt, e0]
  rw [e2] at c1
  rw [e1] at c2
  omega
theorem own_one {zN z2 : Int32} (H : own_N zN z2) : ¬ (1 : Int32) < 0 ∧ (1 : Int32) < z2 := by
  rcases H with ⟨rfl, rfl⟩ | ⟨rfl, rfl⟩ | ⟨rfl, rfl⟩ <;> decide
theorem own_ush (x : Int32) (h : 0 ≤ x.toInt) : 0 ≤ ((x.toUInt32 >>> ((1 : Int32) &&& 31).toUInt32).toInt32).toInt ∧ 2 * ((x.toUInt32 >>> ((1 : Int32) &&& 31).toUInt32).toInt32).toInt ≤ x.toInt := by
  have c := c_iushr x 1 1 (by decide) (by decide)
  have r := rng32 x
  have e2 : ((2 ^ 1 : Nat) : Int) = 2 := rfl
  rw [e2] at c
  omega
theorem own_nd0 {zN z2 s1 : Int32} (H : own_N zN z2) (hs : ¬ s1 < 0 ∧ s1 < zN) : 0 ≤ (((zN + s1).toUInt32 >>> ((1 : Int32) &&& 31).toUInt32).toInt32).toInt ∧ (((zN + s1).toUInt32 >>> ((1 : Int32) &&& 31).toUInt32).toInt32).toInt < zN.toInt := by
  have q := H.int
  obtain ⟨h1, h2⟩ := hs
  rw [Int32.lt_iff_toInt_lt] at h1 h2
  have e0 : (0 : Int32).toInt = 0 := rfl
  have c1 := c_iadd zN s1
  have r1 := rng32 (zN + s1)
  have u := own_ush (zN + s1) (by omega)
  omega
theorem own_ilt {a b : Int32} (h : a.toInt < b.toInt) : a < b := Int32.lt_iff_toInt_lt.mpr h
theorem own_a7 (x : Int32) : ¬ (x &&& (7 : Int32)) < 0 ∧ (x &&& (7 : Int32)) < 8 := by
  have c := c_and x 7 (by decide)
  have e0 : (0 : Int32).toInt = 0 := rfl
  have e7 : (7 : Int32).toInt = 7 := rfl
  have e8 : (8 : Int32).toInt = 8 := rfl
  simp only [Int32.lt_iff_toInt_lt, e0, e8]; omega
theorem own_cmp {t x : Int32} (h : x.toInt ≤ t.toInt) : ¬ (t.toInt64 < x.toInt64) := by
  rw [Int64.lt_iff_toInt_lt, c_i2l, c_i2l]; omega
theorem own_dc (t x : Int32) : cmpValue (FP.dcmp (FP.i2d t) (FP.i2d x)) .g = lcmpW t.toInt64 x.toInt64 := by
  have b : ∀ y : Int32, B53 y.toInt64 := fun y => by
    have r := rng32 y
    unfold B53; rw [c_i2l]; omega
  rw [i2d_w, i2d_w]; exact dcmpV_w (b t) (b x) .g
/-- one stream, her arrays behind her and below hi -/
def own_S (Z : State) (h : Heap) (a hi : Nat) (TT KK : Int) : Prop := ∃ (am ap ac : Nat) (km kp kc : ClassId) (lm lp lc : List Value) (f1 z1 x1 : Int32), a < am ∧ am < ap ∧ ap < ac ∧ ac < hi ∧ Exa Z h a "com/example/holdback/holdback/sim/EventQueue$Stream" ∧
  Fld Z h a "com/example/holdback/holdback/sim/EventQueue$Stream" "moments" "[D" (.ref am) ∧ Fld Z h a "com/example/holdback/holdback/sim/EventQueue$Stream" "places" "[J" (.ref ap) ∧ Fld Z h a "com/example/holdback/holdback/sim/EventQueue$Stream" "actions" "[Ljava/lang/Runnable;" (.ref ac) ∧ Fld Z h a "com/example/holdback/holdback/sim/EventQueue$Stream" "first" "I" (.int f1) ∧ Fld Z h a "com/example/holdback/holdback/sim/EventQueue$Stream" "size" "I" (.int z1) ∧ Fld Z h a "com/example/holdback/holdback/sim/EventQueue$Stream" "lastAt" "D" (.double (FP.i2d x1)) ∧
  Arv Z h am km .double (8 : Int32) lm (.double (0 : UInt64)) ∧ Arv Z h ap kp .long (8 : Int32) lp (.long (0 : Int64)) ∧ Arv Z h ac kc (.object "java/lang/Runnable") (8 : Int32) lc .null ∧
  own_G own_pd (.double (0 : UInt64)) 8 lm ∧ own_G own_pj (.long (0 : Int64)) 8 lp ∧ own_G own_pn .null 8 lc ∧ (¬ f1 < 0 ∧ f1 < 8) ∧ (-KK ≤ z1.toInt ∧ z1.toInt ≤ KK) ∧ x1.toInt ≤ TT
variable {Z : State} {h h' : Heap} {a hi : Nat} {TT KK : Int}
theorem own_S.lt (H : own_S Z h a hi TT KK) : a + 3 < hi := by obtain ⟨am, ap, ac, _, _, _, _, _, _, _, _, _, a1, a2, a3, a4, -⟩ := H; omega
theorem own_S.mv (H : own_S Z h a hi TT KK) (hE : ∀ {C : String}, Exa Z h a C → Exa Z h' a C) (hF : ∀ {C n d : String} {v : Value}, Fld Z h a C n d v → Fld Z h' a C n d v) (hA : ∀ {b : Nat} {k : ClassId} {ty : FieldType} {z : Int32} {vs : List Value} {dv : Value}, a < b → b < hi → Arv Z h b k ty z vs dv → Arv Z h' b k ty z vs dv) {T' K' : Int} (t : TT ≤ T') (k : KK ≤ K') : own_S Z h' a hi T' K' := by
  obtain ⟨am, ap, ac, km, kp, kc, lm, lp, lc, f1, z1, x1, a1, a2, a3, a4, E, F1, F2, F3, F4, F5, F6, A1, A2, A3, G1, G2, G3, B1, B2, B3⟩ := H
  exact ⟨am, ap, ac, km, kp, kc, lm, lp, lc, f1, z1, x1, a1, a2, a3, a4, hE E, hF F1, hF F2, hF F3, hF F4, hF F5, hF F6, hA (by omega) (by omega) A1, hA (by omega) (by omega) A2, hA (by omega) (by omega) A3, G1, G2, G3, B1, ⟨by omega, by omega⟩, by omega⟩
theorem own_S.keep {ws : List Addr} (H : own_S Z h a hi TT KK) (K : Keep h h' ws) (q : ∀ x : Nat, x ∈ ws → x < a ∨ hi ≤ x) {T' K' : Int} (t : TT ≤ T') (k : KK ≤ K') : own_S Z h' a hi T' K' := by
  have l := H.lt
  have n : ∀ b : Nat, a ≤ b → b < hi → b ∉ ws := fun b h1 h2 z => by have := q b z; omega
  exact H.mv (fun E => E.keep K) (fun F => F.keep K (n a (Nat.le_refl _) (by omega))) (fun h1 h2 A => A.keep K (n _ (by omega) h2)) t k
theorem own_S.keep1 {ws : List Addr} {ac : Nat} (H : own_S Z h a (ac + 1) TT KK) (K : Keep h h' ws) (q : ∀ x : Nat, x ∈ ws → x < a ∨ ac < x) : own_S Z h' a (ac + 1) TT KK := H.keep K q (Int.le_refl _) (Int.le_refl _)
theorem own_S.ext (H : own_S Z h a hi TT KK) (E : Ext h h') : own_S Z h' a hi TT KK := H.keep (ws := []) ((Keep.refl h []).ext E) (fun x hx => nomatch hx) (Int.le_refl _) (Int.le_refl _)
theorem own_S.wr {b ac : Nat} {sl : Nat} {v : Value} (H : own_S Z h a (ac + 1) TT KK) (W : Wr h h' b sl v) (q : b < a ∨ ac < b) : own_S Z h' a (ac + 1) TT KK := H.keep1 (Keep.of_wr W) (fun x hx => by cases List.mem_singleton.mp hx; exact q)
theorem own_S.up2 {ac hi' : Nat} (H : own_S Z h a (ac + 1) TT KK) (q : ac < hi') : own_S Z h a hi' TT KK := by
  obtain ⟨am, ap, ac', km, kp, kc, lm, lp, lc, f1, z1, x1, a1, a2, a3, a4, r⟩ := H
  exact ⟨am, ap, ac', km, kp, kc, lm, lp, lc, f1, z1, x1, a1, a2, a3, by omega, r⟩
def own_SS (Z : State) (h : Heap) (n : Nat) (ff : Nat → Nat) (TT KK : Int) : Prop := ∀ j, j < n → own_S Z h (ff j) (ff (j + 1)) TT KK
variable {n : Nat} {ff : Nat → Nat} {ws : List Addr}
theorem own_SS.mono (H : own_SS Z h n ff TT KK) : ∀ i j : Nat, i ≤ j → j ≤ n → ff i ≤ ff j := by
  intro i j hij hj
  induction j with
  | zero => cases Nat.le_zero.mp hij; exact Nat.le_refl _
  | succ k ih =>
    rcases Nat.lt_or_ge i (k + 1) with q | q
    · have := (H k (by omega)).lt
      have := ih (by omega) (by omega)
      omega
    · have : i = k + 1 := by omega
      subst this; exact Nat.le_refl _
theorem own_SS.keep (H : own_SS Z h n ff TT KK) (K : Keep h h' ws) (q : ∀ x : Nat, x ∈ ws → x < ff 0) : own_SS Z h' n ff TT KK := fun j hj =>
  (H j hj).keep K (fun x hx => by have := q x hx; have := H.mono 0 j (Nat.zero_le _) (by omega); omega) (Int.le_refl _) (Int.le_refl _)
theorem own_SS.ext (H : own_SS Z h n ff TT KK) (E : Ext h h') : own_SS Z h' n ff TT KK := H.keep (ws := []) ((Keep.refl h []).ext E) (fun x hx => nomatch hx)
theorem own_SS.wr {b : Nat} {sl : Nat} {v : Value} (H : own_SS Z h n ff TT KK) (W : Wr h h' b sl v) (q : b < ff 0) : own_SS Z h' n ff TT KK := H.keep (Keep.of_wr W) (fun x hx => by cases List.mem_singleton.mp hx; exact q)
theorem own_SS.upd (H : own_SS Z h n ff TT KK) {i : Nat} (hi : i < n) (K : Keep h h' ws) (q : ∀ x : Nat, x ∈ ws → ff i ≤ x ∧ x < ff (i + 1)) {T' K' : Int} (new : own_S Z h' (ff i) (ff (i + 1)) T' K') (t : TT ≤ T') (k : KK ≤ K') : own_SS Z h' n ff T' K' := fun j hj => by
  by_cases u : j = i
  · subst u; exact new
  · refine (H j hj).keep K (fun x hx => ?_) t k
    have := q x hx
    rcases Nat.lt_or_ge j i with z | z
    · have := H.mono (j + 1) i (by omega) (by omega); omega
    · have := H.mono (i + 1) j (by omega) (by omega); omega
theorem own_i2d0 : FP.i2d 0 = 0 := by decide +kernel

theorem ef_rmMin (m : MethodId) (x0 : Int32) (x1 : Int32) : entryFrame m #[(.int x0), (.int x1)] 2 = mkF m 0 #[.val (.int x0), .val (.int x1)] [] := by first | (simp [entryFrame, mkF, argsToLocals, Value.category]; done) | rfl
theorem d1_0 : decode jdk_29_method_69_code 0 = .ok (.iload_n 0, 1) := by decide +kernel
theorem d1_1 : decode jdk_29_method_69_code 1 = .ok (.iload_n 1, 1) := by decide +kernel
theorem d1_2 : decode jdk_29_method_69_code 2 = .ok (.if_icmp .gt 7, 3) := by decide +kernel
theorem d1_9 : decode jdk_29_method_69_code 9 = .ok (.iload_n 1, 1) := by decide +kernel
theorem d1_5 : decode jdk_29_method_69_code 5 = .ok (.iload_n 0, 1) := by decide +kernel
theorem d1_6 : decode jdk_29_method_69_code 6 = .ok (.goto 4, 3) := by decide +kernel
theorem d1_10 : decode jdk_29_method_69_code 10 = .ok (.ireturn, 1) := by decide +kernel
def Q_rmMin (Z : State) (a1 : Int32) (a2 : Int32) (h0 : Heap) (n0 : Nat) (v : Option Value) (h : Heap) (L : List Loc) : Prop := ∃ (r1 : Int32), v = some (.int r1) ∧ Fr n0 L ∧ h = h0 ∧ (r1 = (if a2 < a1 then a2 else a1))
set_option maxRecDepth 65536 in
set_option maxHeartbeats 40000000 in
theorem rmMin (l : Launch) (Z : State) (a0 : Array Value) (hw : ∀ d ∈ tables_1, d.before a0 Z = true) (ws : List Jvm.Cond) (a1 : Int32) (a2 : Int32) (h0 : Heap) (n0 : Nat) (Z0 : n0 ≤ h0.size) (OLD : Old Z n0 h0) :
    MetFree l (⟨"java/lang/Math", "min", "(II)I"⟩ : MethodName) (head1 (Jvm.Cond.code (⟨"java/lang/Math", "min", "(II)I"⟩ : MethodName) jdk_29_method_69_code 2 (some .int) :: ws) ({ frames := 0, cells := 0, slots := 0, locals := 0 } : Room)) (fun a U => a = #[(.int a1), (.int a2)] ∧ Z.Warmed39 U.vm ∧ U.heap = h0) (fun _ _ _ _ _ => True) (fun _ U o U' => ∃ v L, o = .returned v ∧ Q_rmMin Z a1 a2 h0 n0 v U'.heap L ∧ FrameEnd U o U' L ({ frames := 0, cells := 0, slots := 0, locals := 0 } : Room).cells ({ frames := 0, cells := 0, slots := 0, locals := 0 } : Room).slots) := by
  refine MetFree.of_bodySF (Jvm.Free.JP.mathPlain rfl (by decide +kernel)) hisR ?_
  intro p e s m args below meth c s₁ Bd hml0 hP hK
  obtain ⟨rfl, hZ, hh⟩ := hP
  have hx := Bd.exec
  have hby := Bd.bytes
  have hml : c.maxLocals = 2 := hml0
  have hown : s.vm.findClass "java/lang/Math" = some m.cls := findClass_of_methodNamed Bd.named
  have hnm := (name_of_methodNamed Bd.named Bd.method).1
  have X0 : Stand p l e ({ frames := 0, cells := 0, slots := 0, locals := 0 } : Room) s m #[(.int a1), (.int a2)] below meth c s₁ [] 0 0 := Stand.of_body Bd
  have e0 : s₁.heap = h0 := by rw [← hh, Bd.state]; rfl
  have N0 := Fr.nil n0
  have pre0 : ∀ t, Steps p.tables e below (s₁.setTop (mkF m 0 #[.val (.int a1), .val (.int a2)] [])) t → Steps p.tables e below (s₁.setTop (entryFrame m #[(.int a1), (.int a2)] 2)) t := fun t k => castTop (ef_rmMin m a1 a2) k
  have oz := OLD.1
  refine own_go (B := s₁.setTop (mkF m 0 #[.val (.int a1), .val (.int a2)] [])) pre0 ?_
  show ∃ t o, Steps p.tables e below (s₁.setTop (mkF m 0 #[.val (.int a1), .val (.int a2)] [])) t ∧ _
  refine own_go (fun _ => XS.iloadN X0.here hx rfl (hb hby d1_0) rfl) ?_
  refine own_go (fun _ => XS.iloadN X0.here hx rfl (hb hby d1_1) rfl) ?_
  show ∃ t o, Steps p.tables e below (s₁.setTop (mkF m 2 #[.val (.int a1), .val (.int a2)] [(.int a2), (.int a1)])) t ∧ _
  have seg1 : ∀ t, Steps p.tables e below (s₁.setTop (mkF m 10 #[.val (.int a1), .val (.int a2)] [(.int (if a2 < a1 then a2 else a1))])) t → Steps p.tables e below (s₁.setTop (mkF m 2 #[.val (.int a1), .val (.int a2)] [(.int a2), (.int a1)])) t := by
    intro t k
    show Steps p.tables e below (s₁.setTop (mkF m 2 #[.val (.int a1), .val (.int a2)] [(.int a2), (.int a1)])) _
    by_cases hc2 : a2 < a1
    · refine XS.icmpYes X0.here hx rfl (pc0 := 2) (pc' := 9) rfl (hb hby d1_2) rfl (tlt hc2).2.2.1 (by decide) (by decide) ?_
      show Steps p.tables e below (s₁.setTop (mkF m 9 #[.val (.int a1), .val (.int a2)] [])) _
      refine XS.iloadN X0.here hx rfl (hb hby d1_9) rfl ?_
      simp only [if_pos hc2] at k
      exact k
    · refine XS.icmpNo X0.here hx rfl (hb hby d1_2) rfl (flt hc2).2.2.1 ?_
      show Steps p.tables e below (s₁.setTop (mkF m 5 #[.val (.int a1), .val (.int a2)] [])) _
      refine XS.iloadN X0.here hx rfl (hb hby d1_5) rfl ?_
      show Steps p.tables e below (s₁.setTop (mkF m 6 #[.val (.int a1), .val (.int a2)] [(.int a1)])) _
      refine XS.goto X0.here hx rfl (pc0 := 6) (pc' := 10) rfl (hb hby d1_6) (by decide) (by decide) ?_
      simp only [if_neg hc2] at k
      exact k
  refine own_go seg1 ?_
  show ∃ t o, Steps p.tables e below (s₁.setTop (mkF m 10 #[.val (.int a1), .val (.int a2)] [(.int (if a2 < a1 then a2 else a1))])) t ∧ _
  obtain ⟨fs, hr, hrun, hended, hW, hsame⟩ := X0.leave (v := some (.int (if a2 < a1 then a2 else a1))) (fun h => by rw [Bd.returns] at h; cases h)
  refine ⟨_, _, ?_, hrun, hended, _, _, rfl, ?_, ⟨_, rfl⟩, hW, hsame.mono (by decide) (by decide)⟩
  · exact retI X0 hx Bd.returns (hb hby d1_10) hr
  · show Q_rmMin Z _ _ h0 n0 _ s₁.heap _
    rw [e0]
    exact ⟨(if a2 < a1 then a2 else a1), rfl, N0, rfl, rfl⟩
theorem ef_rmMax (m : MethodId) (x0 : Int32) (x1 : Int32) : entryFrame m #[(.int x0), (.int x1)] 2 = mkF m 0 #[.val (.int x0), .val (.int x1)] [] := by first | (simp [entryFrame, mkF, argsToLocals, Value.category]; done) | rfl
theorem d4_0 : decode jdk_29_method_65_code 0 = .ok (.iload_n 0, 1) := by decide +kernel
theorem d4_1 : decode jdk_29_method_65_code 1 = .ok (.iload_n 1, 1) := by decide +kernel
theorem d4_2 : decode jdk_29_method_65_code 2 = .ok (.if_icmp .lt 7, 3) := by decide +kernel
theorem d4_9 : decode jdk_29_method_65_code 9 = .ok (.iload_n 1, 1) := by decide +kernel
theorem d4_5 : decode jdk_29_method_65_code 5 = .ok (.iload_n 0, 1) := by decide +kernel
theorem d4_6 : decode jdk_29_method_65_code 6 = .ok (.goto 4, 3) := by decide +kernel
theorem d4_10 : decode jdk_29_method_65_code 10 = .ok (.ireturn, 1) := by decide +kernel
def Q_rmMax (Z : State) (a1 : Int32) (a2 : Int32) (h0 : Heap) (n0 : Nat) (v : Option Value) (h : Heap) (L : List Loc) : Prop := ∃ (r1 : Int32), v = some (.int r1) ∧ Fr n0 L ∧ h = h0 ∧ (r1 = (if a1 < a2 then a2 else a1))
set_option maxRecDepth 65536 in
set_option maxHeartbeats 40000000 in
theorem rmMax (l : Launch) (Z : State) (a0 : Array Value) (hw : ∀ d ∈ tables_1, d.before a0 Z = true) (ws : List Jvm.Cond) (a1 : Int32) (a2 : Int32) (h0 : Heap) (n0 : Nat) (Z0 : n0 ≤ h0.size) (OLD : Old Z n0 h0) :
    MetFree l (⟨"java/lang/Math", "max", "(II)I"⟩ : MethodName) (head1 (Jvm.Cond.code (⟨"java/lang/Math", "max", "(II)I"⟩ : MethodName) jdk_29_method_65_code 2 (some .int) :: ws) ({ frames := 0, cells := 0, slots := 0, locals := 0 } : Room)) (fun a U => a = #[(.int a1), (.int a2)] ∧ Z.Warmed39 U.vm ∧ U.heap = h0) (fun _ _ _ _ _ => True) (fun _ U o U' => ∃ v L, o = .returned v ∧ Q_rmMax Z a1 a2 h0 n0 v U'.heap L ∧ FrameEnd U o U' L ({ frames := 0, cells := 0, slots := 0, locals := 0 } : Room).cells ({ frames := 0, cells := 0, slots := 0, locals := 0 } : Room).slots) := by
  refine MetFree.of_bodySF (Jvm.Free.JP.mathPlain rfl (by decide +kernel)) hisR ?_
  intro p e s m args below meth c s₁ Bd hml0 hP hK
  obtain ⟨rfl, hZ, hh⟩ := hP
  have hx := Bd.exec
  have hby := Bd.bytes
  have hml : c.maxLocals = 2 := hml0
  have hown : s.vm.findClass "java/lang/Math" = some m.cls := findClass_of_methodNamed Bd.named
  have hnm := (name_of_methodNamed Bd.named Bd.method).1
  have X0 : Stand p l e ({ frames := 0, cells := 0, slots := 0, locals := 0 } : Room) s m #[(.int a1), (.int a2)] below meth c s₁ [] 0 0 := Stand.of_body Bd
  have e0 : s₁.heap = h0 := by rw [← hh, Bd.state]; rfl
  have N0 := Fr.nil n0
  have pre0 : ∀ t, Steps p.tables e below (s₁.setTop (mkF m 0 #[.val (.int a1), .val (.int a2)] [])) t → Steps p.tables e below (s₁.setTop (entryFrame m #[(.int a1), (.int a2)] 2)) t := fun t k => castTop (ef_rmMax m a1 a2) k
  have oz := OLD.1
  refine own_go (B := s₁.setTop (mkF m 0 #[.val (.int a1), .val (.int a2)] [])) pre0 ?_
  show ∃ t o, Steps p.tables e below (s₁.setTop (mkF m 0 #[.val (.int a1), .val (.int a2)] [])) t ∧ _
  refine own_go (fun _ => XS.iloadN X0.here hx rfl (hb hby d4_0) rfl) ?_
  refine own_go (fun _ => XS.iloadN X0.here hx rfl (hb hby d4_1) rfl) ?_
  show ∃ t o, Steps p.tables e below (s₁.setTop (mkF m 2 #[.val (.int a1), .val (.int a2)] [(.int a2), (.int a1)])) t ∧ _
  have seg1 : ∀ t, Steps p.tables e below (s₁.setTop (mkF m 10 #[.val (.int a1), .val (.int a2)] [(.int (if a1 < a2 then a2 else a1))])) t → Steps p.tables e below (s₁.setTop (mkF m 2 #[.val (.int a1), .val (.int a2)] [(.int a2), (.int a1)])) t := by
    intro t k
    show Steps p.tables e below (s₁.setTop (mkF m 2 #[.val (.int a1), .val (.int a2)] [(.int a2), (.int a1)])) _
    by_cases hc2 : a1 < a2
    · refine XS.icmpYes X0.here hx rfl (pc0 := 2) (pc' := 9) rfl (hb hby d4_2) rfl (tlt hc2).1 (by decide) (by decide) ?_
      show Steps p.tables e below (s₁.setTop (mkF m 9 #[.val (.int a1), .val (.int a2)] [])) _
      refine XS.iloadN X0.here hx rfl (hb hby d4_9) rfl ?_
      simp only [if_pos hc2] at k
      exact k
    · refine XS.icmpNo X0.here hx rfl (hb hby d4_2) rfl (flt hc2).1 ?_
      show Steps p.tables e below (s₁.setTop (mkF m 5 #[.val (.int a1), .val (.int a2)] [])) _
      refine XS.iloadN X0.here hx rfl (hb hby d4_5) rfl ?_
      show Steps p.tables e below (s₁.setTop (mkF m 6 #[.val (.int a1), .val (.int a2)] [(.int a1)])) _
      refine XS.goto X0.here hx rfl (pc0 := 6) (pc' := 10) rfl (hb hby d4_6) (by decide) (by decide) ?_
      simp only [if_neg hc2] at k
      exact k
  refine own_go seg1 ?_
  show ∃ t o, Steps p.tables e below (s₁.setTop (mkF m 10 #[.val (.int a1), .val (.int a2)] [(.int (if a1 < a2 then a2 else a1))])) t ∧ _
  obtain ⟨fs, hr, hrun, hended, hW, hsame⟩ := X0.leave (v := some (.int (if a1 < a2 then a2 else a1))) (fun h => by rw [Bd.returns] at h; cases h)
  refine ⟨_, _, ?_, hrun, hended, _, _, rfl, ?_, ⟨_, rfl⟩, hW, hsame.mono (by decide) (by decide)⟩
  · exact retI X0 hx Bd.returns (hb hby d4_10) hr
  · show Q_rmMax Z _ _ h0 n0 _ s₁.heap _
    rw [e0]
    exact ⟨(if a1 < a2 then a2 else a1), rfl, N0, rfl, rfl⟩
theorem ef_rmNaN (m : MethodId) (x0 : UInt64) : entryFrame m #[(.double x0)] 2 = mkF m 0 #[.val (.double x0), .second] [] := by first | (simp [entryFrame, mkF, argsToLocals, Value.category]; done) | rfl
theorem d11_0 : decode jdk_117_method_6_code 0 = .ok (.dload_n 0, 1) := by decide +kernel
theorem d11_1 : decode jdk_117_method_6_code 1 = .ok (.dload_n 0, 1) := by decide +kernel
theorem d11_2 : decode jdk_117_method_6_code 2 = .ok (.dcmp .l, 1) := by decide +kernel
theorem d11_3 : decode jdk_117_method_6_code 3 = .ok (.ifCond .eq 7, 3) := by decide +kernel
theorem d11_10 : decode jdk_117_method_6_code 10 = .ok (.iconst 0, 1) := by decide +kernel
theorem d11_11 : decode jdk_117_method_6_code 11 = .ok (.ireturn, 1) := by decide +kernel
theorem pn_java_lang_Double : plainName "java/lang/Double" = true := by first | (simp [plainName, overriddenIn]; done) | decide +kernel
def Q_rmNaN (Z : State) (A1 : UInt64) (h0 : Heap) (n0 : Nat) (v : Option Value) (h : Heap) (L : List Loc) : Prop := v = some (.int (0 : Int32)) ∧ Fr n0 L ∧ h = h0
set_option maxRecDepth 65536 in
set_option maxHeartbeats 40000000 in
theorem rmNaN (l : Launch) (Z : State) (a0 : Array Value) (hw : ∀ d ∈ tables_1, d.before a0 Z = true) (ws : List Jvm.Cond) (A1 : UInt64) (h0 : Heap) (n0 : Nat) (Z0 : n0 ≤ h0.size) (OLD : Old Z n0 h0) (nA : Jvm.Free.Fl.NoNaN64 A1) :
    MetFree l (⟨"java/lang/Double", "isNaN", "(D)Z"⟩ : MethodName) (head1 (Jvm.Cond.code (⟨"java/lang/Double", "isNaN", "(D)Z"⟩ : MethodName) jdk_117_method_6_code 2 (some .boolean) :: ws) ({ frames := 0, cells := 0, slots := 0, locals := 0 } : Room)) (fun a U => a = #[(.double A1)] ∧ Z.Warmed39 U.vm ∧ U.heap = h0) (fun _ _ _ _ _ => True) (fun _ U o U' => ∃ v L, o = .returned v ∧ Q_rmNaN Z A1 h0 n0 v U'.heap L ∧ FrameEnd U o U' L ({ frames := 0, cells := 0, slots := 0, locals := 0 } : Room).cells ({ frames := 0, cells := 0, slots := 0, locals := 0 } : Room).slots) := by
  refine MetFree.of_bodySF (plainFor_of_name pn_java_lang_Double) hisR ?_
  intro p e s m args below meth c s₁ Bd hml0 hP hK
  obtain ⟨rfl, hZ, hh⟩ := hP
  have hx := Bd.exec
  have hby := Bd.bytes
  have hml : c.maxLocals = 2 := hml0
  have hown : s.vm.findClass "java/lang/Double" = some m.cls := findClass_of_methodNamed Bd.named
  have hnm := (name_of_methodNamed Bd.named Bd.method).1
  have X0 : Stand p l e ({ frames := 0, cells := 0, slots := 0, locals := 0 } : Room) s m #[(.double A1)] below meth c s₁ [] 0 0 := Stand.of_body Bd
  have e0 : s₁.heap = h0 := by rw [← hh, Bd.state]; rfl
  have N0 := Fr.nil n0
  have pre0 : ∀ t, Steps p.tables e below (s₁.setTop (mkF m 0 #[.val (.double A1), .second] [])) t → Steps p.tables e below (s₁.setTop (entryFrame m #[(.double A1)] 2)) t := fun t k => castTop (ef_rmNaN m A1) k
  have oz := OLD.1
  refine own_go (B := s₁.setTop (mkF m 0 #[.val (.double A1), .second] [])) pre0 ?_
  show ∃ t o, Steps p.tables e below (s₁.setTop (mkF m 0 #[.val (.double A1), .second] [])) t ∧ _
  refine own_go (fun _ => XS.dloadN X0.here hx rfl (hb hby d11_0) rfl) ?_
  refine own_go (fun _ => XS.dloadN X0.here hx rfl (hb hby d11_1) rfl) ?_
  refine own_go (fun _ => XS.dcmpS X0.here hx rfl (hb hby d11_2) rfl (v := (0 : Int32)) (dcmpV_self nA .l)) ?_
  show ∃ t o, Steps p.tables e below (s₁.setTop (mkF m 3 #[.val (.double A1), .second] [(.int (0 : Int32))])) t ∧ _
  refine own_go (fun _ => XS.ifYes X0.here hx rfl (pc0 := 3) (pc' := 10) rfl (hb hby d11_3) rfl ((if0 _ _).trans (teq (by decide : (0 : Int32) = (0 : Int32))).1) (by decide) (by decide)) ?_
  refine own_go (fun _ => XS.iconst X0.here hx rfl (hb hby d11_10)) ?_
  show ∃ t o, Steps p.tables e below (s₁.setTop (mkF m 11 #[.val (.double A1), .second] [(.int (0 : Int32))])) t ∧ _
  obtain ⟨fs, hr, hrun, hended, hW, hsame⟩ := X0.leave (v := some (.int (0 : Int32))) (fun h => by rw [Bd.returns] at h; cases h)
  refine ⟨_, _, ?_, hrun, hended, _, _, rfl, ?_, ⟨_, rfl⟩, hW, hsame.mono (by decide) (by decide)⟩
  · exact retN X0 hx (t := .boolean) Bd.returns (by simp) (hb hby d11_11) hr
  · show Q_rmNaN Z _ h0 n0 _ s₁.heap _
    rw [e0]
    exact ⟨rfl, N0, rfl⟩
theorem ef_rmBits (m : MethodId) (x0 : UInt64) : entryFrame m #[(.double x0)] 2 = mkF m 0 #[.val (.double x0), .second] [] := by first | (simp [entryFrame, mkF, argsToLocals, Value.category]; done) | rfl
theorem d10_0 : decode jdk_117_method_23_code 0 = .ok (.dload_n 0, 1) := by decide +kernel
theorem d10_1 : decode jdk_117_method_23_code 1 = .ok (.invokestatic 122, 3) := by decide +kernel
theorem pd__28D_29Z : parseMethodDescriptor "(D)Z" = some ⟨[.double], some .boolean⟩ := by decide +kernel
theorem d10_4 : decode jdk_117_method_23_code 4 = .ok (.ifCond .ne 8, 3) := by decide +kernel
theorem d10_7 : decode jdk_117_method_23_code 7 = .ok (.dload_n 0, 1) := by decide +kernel
theorem d10_8 : decode jdk_117_method_23_code 8 = .ok (.invokestatic 134, 3) := by decide +kernel
theorem d10_11 : decode jdk_117_method_23_code 11 = .ok (.lreturn, 1) := by decide +kernel
def Q_rmBits (Z : State) (A1 : UInt64) (h0 : Heap) (n0 : Nat) (v : Option Value) (h : Heap) (L : List Loc) : Prop := ∃ (r1 : Int64), v = some (.long r1) ∧ Fr n0 L ∧ h = h0
set_option maxRecDepth 65536 in
set_option maxHeartbeats 40000000 in
theorem rmBits (l : Launch) (Z : State) (a0 : Array Value) (hw : ∀ d ∈ tables_1, d.before a0 Z = true) (ws : List Jvm.Cond) (A1 : UInt64) (h0 : Heap) (n0 : Nat) (Z0 : n0 ≤ h0.size) (OLD : Old Z n0 h0) (nA : Jvm.Free.Fl.NoNaN64 A1) :
    MetFree l (⟨"java/lang/Double", "doubleToLongBits", "(D)J"⟩ : MethodName) (head1 (Jvm.Cond.code (⟨"java/lang/Double", "doubleToLongBits", "(D)J"⟩ : MethodName) jdk_117_method_23_code 2 (some .long) :: ws) ({ frames := 1, cells := 0, slots := 0, locals := 60 } : Room)) (fun a U => a = #[(.double A1)] ∧ Z.Warmed39 U.vm ∧ U.heap = h0) (fun _ _ _ _ _ => True) (fun _ U o U' => ∃ v L, o = .returned v ∧ Q_rmBits Z A1 h0 n0 v U'.heap L ∧ FrameEnd U o U' L ({ frames := 1, cells := 0, slots := 0, locals := 60 } : Room).cells ({ frames := 1, cells := 0, slots := 0, locals := 60 } : Room).slots) := by
  refine MetFree.of_bodySF (plainFor_of_name pn_java_lang_Double) hisR ?_
  intro p e s m args below meth c s₁ Bd hml0 hP hK
  obtain ⟨rfl, hZ, hh⟩ := hP
  have hx := Bd.exec
  have hby := Bd.bytes
  have hml : c.maxLocals = 2 := hml0
  have hown : s.vm.findClass "java/lang/Double" = some m.cls := findClass_of_methodNamed Bd.named
  have hnm := (name_of_methodNamed Bd.named Bd.method).1
  have X0 : Stand p l e ({ frames := 1, cells := 0, slots := 0, locals := 60 } : Room) s m #[(.double A1)] below meth c s₁ [] 0 0 := Stand.of_body Bd
  have e0 : s₁.heap = h0 := by rw [← hh, Bd.state]; rfl
  have N0 := Fr.nil n0
  have pre0 : ∀ t, Steps p.tables e below (s₁.setTop (mkF m 0 #[.val (.double A1), .second] [])) t → Steps p.tables e below (s₁.setTop (entryFrame m #[(.double A1)] 2)) t := fun t k => castTop (ef_rmBits m A1) k
  have w_61 := hw _ (List.mem_of_getElem? (i := 61) rfl)
  have w_68 := hw _ (List.mem_of_getElem? (i := 68) rfl)
  have oz := OLD.1
  refine own_go (B := s₁.setTop (mkF m 0 #[.val (.double A1), .second] [])) pre0 ?_
  show ∃ t o, Steps p.tables e below (s₁.setTop (mkF m 0 #[.val (.double A1), .second] [])) t ∧ _
  refine own_go (fun _ => XS.dloadN X0.here hx rfl (hb hby d10_0) rfl) ?_
  show ∃ t o, Steps p.tables e below (s₁.setTop (mkF m 1 #[.val (.double A1), .second] [(.double A1)])) t ∧ _
  obtain ⟨_, _, ⟨T1, L1, k1, n1⟩, -, X1, ⟨Lc1, hQ1, l1, y1, z1⟩, st1⟩ := Jvm.LawKit.callS X0 hx (y := (⟨"java/lang/Double", "isNaN", "(D)Z"⟩ : MethodName)) hown (mvT hZ (hw _ (List.mem_of_getElem? (i := 66) rfl))) (mvT hZ (hw _ (List.mem_of_getElem? (i := 67) rfl))) (mvT hZ w_61) (mvT hZ w_68) (by decide) (backOf (W := 0) (rmNaN l Z a0 hw [] A1 h0 n0 Z0 OLD nA) hZ w_68 w_61 (by decide) (by decide)) (g := (mkF m 1 #[.val (.double A1), .second] [(.double A1)])) rfl (by rw [hml]; rfl) (argsL := [(.double A1)]) (rest := []) (lenOf pd__28D_29Z rfl) rfl (by show 2 * 0 + _ ≤ _; exact Nat.le_of_eq rfl) (hb hby d10_1) (fun _ _ => ⟨rfl, e0, (by decide : 0 + 0 ≤ _), (by decide : 0 + 0 ≤ _)⟩)
  dsimp only [Pt.U, Pt.locs, Pt.cells, Pt.slots] at X1 l1 y1 z1 st1 hQ1
  rw [l1, y1, z1] at X1
  obtain ⟨rfl, Nq1, e1⟩ := hQ1
  have N1 := Fr.app N0 Nq1
  refine own_go st1 ?_
  show ∃ t o, Steps p.tables e below (T1.setTop (mkF m 4 #[.val (.double A1), .second] [(.int (0 : Int32))])) t ∧ _
  refine own_go (fun _ => XS.ifNo X1.here hx rfl (hb hby d10_4) rfl ((if0 _ _).trans (teq (by decide : (0 : Int32) = (0 : Int32))).2)) ?_
  refine own_go (fun _ => XS.dloadN X1.here hx rfl (hb hby d10_7) rfl) ?_
  show ∃ t o, Steps p.tables e below (T1.setTop (mkF m 8 #[.val (.double A1), .second] [(.double A1)])) t ∧ _
  obtain ⟨vm2, X2, st2⟩ := X1.doubleToRawLongBits hx hown (mvT hZ (hw _ (List.mem_of_getElem? (i := 69) rfl))) (mvT hZ (hw _ (List.mem_of_getElem? (i := 71) rfl))) (mvT hZ (hw _ (List.mem_of_getElem? (i := 70) rfl))) (mvT hZ w_61) (g := (mkF m 8 #[.val (.double A1), .second] [(.double A1)])) rfl (by rw [hml]; rfl) (rest := []) (b := A1) rfl (hb hby d10_8) (by decide) (by show 2 * 0 + 0 + (nativeFrameWords "java/lang/Double" "doubleToRawLongBits" 2 + 11) ≤ _; decide +kernel)
  obtain ⟨T2, eT2⟩ : ∃ z, z = T1.setVm vm2 := ⟨_, rfl⟩
  have e2 : T2.heap = h0 := by rw [eT2]; exact e1
  rw [← eT2] at X2 st2
  refine own_go st2 ?_
  show ∃ t o, Steps p.tables e below (T2.setTop (mkF m 11 #[.val (.double A1), .second] [(.long (A1).toInt64)])) t ∧ _
  obtain ⟨fs, hr, hrun, hended, hW, hsame⟩ := X2.leave (v := some (.long (A1).toInt64)) (fun h => by rw [Bd.returns] at h; cases h)
  refine ⟨_, _, ?_, hrun, hended, _, _, rfl, ?_, ⟨_, rfl⟩, hW, hsame.mono (by decide) (by decide)⟩
  · jvm_step X2.here [X2.here.top, hx, (hb hby d10_11), X2.method', Bd.returns, narrow]
    first | (intro acts; rw [hr _ acts rfl rfl rfl]) | rw [hr _ _ rfl rfl rfl]
    exact Steps.refl _
  · show Q_rmBits Z _ h0 n0 _ T2.heap _
    rw [e2]
    exact ⟨(A1).toInt64, rfl, N1, rfl⟩
theorem ef_rmCmp (m : MethodId) (x0 : UInt64) (x1 : UInt64) : entryFrame m #[(.double x0), (.double x1)] 8 = mkF m 0 #[.val (.double x0), .second, .val (.double x1), .second, .unset, .unset, .unset, .unset] [] := by first | (simp [entryFrame, mkF, argsToLocals, Value.category]; done) | rfl
theorem d9_0 : decode jdk_117_method_27_code 0 = .ok (.dload_n 0, 1) := by decide +kernel
theorem d9_1 : decode jdk_117_method_27_code 1 = .ok (.dload_n 2, 1) := by decide +kernel
theorem d9_2 : decode jdk_117_method_27_code 2 = .ok (.dcmp .g, 1) := by decide +kernel
theorem d9_3 : decode jdk_117_method_27_code 3 = .ok (.ifCond .ge 5, 3) := by decide +kernel
theorem d9_6 : decode jdk_117_method_27_code 6 = .ok (.iconst (-1), 1) := by decide +kernel
theorem d9_7 : decode jdk_117_method_27_code 7 = .ok (.ireturn, 1) := by decide +kernel
theorem d9_8 : decode jdk_117_method_27_code 8 = .ok (.dload_n 0, 1) := by decide +kernel
theorem d9_9 : decode jdk_117_method_27_code 9 = .ok (.dload_n 2, 1) := by decide +kernel
theorem d9_10 : decode jdk_117_method_27_code 10 = .ok (.dcmp .l, 1) := by decide +kernel
theorem d9_11 : decode jdk_117_method_27_code 11 = .ok (.ifCond .le 5, 3) := by decide +kernel
theorem d9_14 : decode jdk_117_method_27_code 14 = .ok (.iconst 1, 1) := by decide +kernel
theorem d9_15 : decode jdk_117_method_27_code 15 = .ok (.ireturn, 1) := by decide +kernel
theorem d9_16 : decode jdk_117_method_27_code 16 = .ok (.dload_n 0, 1) := by decide +kernel
theorem d9_17 : decode jdk_117_method_27_code 17 = .ok (.invokestatic 46, 3) := by decide +kernel
theorem pd__28D_29J : parseMethodDescriptor "(D)J" = some ⟨[.double], some .long⟩ := by decide +kernel
theorem d9_20 : decode jdk_117_method_27_code 20 = .ok (.lstore 4, 2) := by decide +kernel
theorem d9_22 : decode jdk_117_method_27_code 22 = .ok (.dload_n 2, 1) := by decide +kernel
theorem d9_23 : decode jdk_117_method_27_code 23 = .ok (.invokestatic 46, 3) := by decide +kernel
theorem d9_26 : decode jdk_117_method_27_code 26 = .ok (.lstore 6, 2) := by decide +kernel
theorem d9_28 : decode jdk_117_method_27_code 28 = .ok (.lload 4, 2) := by decide +kernel
theorem d9_30 : decode jdk_117_method_27_code 30 = .ok (.lload 6, 2) := by decide +kernel
theorem d9_32 : decode jdk_117_method_27_code 32 = .ok (.lcmp, 1) := by decide +kernel
theorem d9_33 : decode jdk_117_method_27_code 33 = .ok (.ifCond .ne 7, 3) := by decide +kernel
theorem d9_36 : decode jdk_117_method_27_code 36 = .ok (.iconst 0, 1) := by decide +kernel
theorem d9_37 : decode jdk_117_method_27_code 37 = .ok (.goto 16, 3) := by decide +kernel
theorem d9_53 : decode jdk_117_method_27_code 53 = .ok (.ireturn, 1) := by decide +kernel
theorem d9_40 : decode jdk_117_method_27_code 40 = .ok (.lload 4, 2) := by decide +kernel
theorem d9_42 : decode jdk_117_method_27_code 42 = .ok (.lload 6, 2) := by decide +kernel
theorem d9_44 : decode jdk_117_method_27_code 44 = .ok (.lcmp, 1) := by decide +kernel
theorem d9_45 : decode jdk_117_method_27_code 45 = .ok (.ifCond .ge 7, 3) := by decide +kernel
theorem d9_48 : decode jdk_117_method_27_code 48 = .ok (.iconst (-1), 1) := by decide +kernel
theorem d9_49 : decode jdk_117_method_27_code 49 = .ok (.goto 4, 3) := by decide +kernel
theorem d9_52 : decode jdk_117_method_27_code 52 = .ok (.iconst 1, 1) := by decide +kernel
def Q_rmCmp (Z : State) (A1 : UInt64) (A2 : UInt64) (h0 : Heap) (n0 : Nat) (v : Option Value) (h : Heap) (L : List Loc) : Prop := ∃ (r1 : Int32), v = some (.int r1) ∧ Fr n0 L ∧ h = h0
set_option maxRecDepth 65536 in
set_option maxHeartbeats 40000000 in
theorem rmCmp (l : Launch) (Z : State) (a0 : Array Value) (hw : ∀ d ∈ tables_1, d.before a0 Z = true) (ws : List Jvm.Cond) (A1 : UInt64) (A2 : UInt64) (h0 : Heap) (n0 : Nat) (Z0 : n0 ≤ h0.size) (OLD : Old Z n0 h0) (nA1 : Jvm.Free.Fl.NoNaN64 A1) (nA2 : Jvm.Free.Fl.NoNaN64 A2) :
    MetFree l (⟨"java/lang/Double", "compare", "(DD)I"⟩ : MethodName) (head1 (Jvm.Cond.code (⟨"java/lang/Double", "compare", "(DD)I"⟩ : MethodName) jdk_117_method_27_code 8 (some .int) :: ws) ({ frames := 2, cells := 0, slots := 0, locals := 73 } : Room)) (fun a U => a = #[(.double A1), (.double A2)] ∧ Z.Warmed39 U.vm ∧ U.heap = h0) (fun _ _ _ _ _ => True) (fun _ U o U' => ∃ v L, o = .returned v ∧ Q_rmCmp Z A1 A2 h0 n0 v U'.heap L ∧ FrameEnd U o U' L ({ frames := 2, cells := 0, slots := 0, locals := 73 } : Room).cells ({ frames := 2, cells := 0, slots := 0, locals := 73 } : Room).slots) := by
  refine MetFree.of_bodySF (plainFor_of_name pn_java_lang_Double) hisR ?_
  intro p e s m args below meth c s₁ Bd hml0 hP hK
  obtain ⟨rfl, hZ, hh⟩ := hP
  have hx := Bd.exec
  have hby := Bd.bytes
  have hml : c.maxLocals = 8 := hml0
  have hown : s.vm.findClass "java/lang/Double" = some m.cls := findClass_of_methodNamed Bd.named
  have hnm := (name_of_methodNamed Bd.named Bd.method).1
  have X0 : Stand p l e ({ frames := 2, cells := 0, slots := 0, locals := 73 } : Room) s m #[(.double A1), (.double A2)] below meth c s₁ [] 0 0 := Stand.of_body Bd
  have e0 : s₁.heap = h0 := by rw [← hh, Bd.state]; rfl
  have N0 := Fr.nil n0
  have pre0 : ∀ t, Steps p.tables e below (s₁.setTop (mkF m 0 #[.val (.double A1), .second, .val (.double A2), .second, .unset, .unset, .unset, .unset] [])) t → Steps p.tables e below (s₁.setTop (entryFrame m #[(.double A1), (.double A2)] 8)) t := fun t k => castTop (ef_rmCmp m A1 A2) k
  have w_61 := hw _ (List.mem_of_getElem? (i := 61) rfl)
  have w_63 := hw _ (List.mem_of_getElem? (i := 63) rfl)
  have w_64 := hw _ (List.mem_of_getElem? (i := 64) rfl)
  have w_65 := hw _ (List.mem_of_getElem? (i := 65) rfl)
  have oz := OLD.1
  refine own_go (B := s₁.setTop (mkF m 0 #[.val (.double A1), .second, .val (.double A2), .second, .unset, .unset, .unset, .unset] [])) pre0 ?_
  show ∃ t o, Steps p.tables e below (s₁.setTop (mkF m 0 #[.val (.double A1), .second, .val (.double A2), .second, .unset, .unset, .unset, .unset] [])) t ∧ _
  refine own_go (fun _ => XS.dloadN X0.here hx rfl (hb hby d9_0) rfl) ?_
  refine own_go (fun _ => XS.dloadN X0.here hx rfl (hb hby d9_1) rfl) ?_
  refine own_go (fun _ => XS.dcmpS X0.here hx rfl (hb hby d9_2) rfl (v := (cmpValue (FP.dcmp A1 A2) .g)) rfl) ?_
  show ∃ t o, Steps p.tables e below (s₁.setTop (mkF m 3 #[.val (.double A1), .second, .val (.double A2), .second, .unset, .unset, .unset, .unset] [(.int (cmpValue (FP.dcmp A1 A2) .g))])) t ∧ _
  by_cases hc1 : (cmpValue (FP.dcmp A1 A2) .g) < (0 : Int32)
  · refine own_go (fun _ => XS.ifNo X0.here hx rfl (hb hby d9_3) rfl ((if0 _ _).trans (tlt hc1).2.1)) ?_
    refine own_go (fun _ => XS.iconst X0.here hx rfl (hb hby d9_6)) ?_
    show ∃ t o, Steps p.tables e below (s₁.setTop (mkF m 7 #[.val (.double A1), .second, .val (.double A2), .second, .unset, .unset, .unset, .unset] [(.int (-1 : Int32))])) t ∧ _
    obtain ⟨fs, hr, hrun, hended, hW, hsame⟩ := X0.leave (v := some (.int (-1 : Int32))) (fun h => by rw [Bd.returns] at h; cases h)
    refine ⟨_, _, ?_, hrun, hended, _, _, rfl, ?_, ⟨_, rfl⟩, hW, hsame.mono (by decide) (by decide)⟩
    · exact retI X0 hx Bd.returns (hb hby d9_7) hr
    · show Q_rmCmp Z _ _ h0 n0 _ s₁.heap _
      rw [e0]
      exact ⟨(-1 : Int32), rfl, N0, rfl⟩
  · refine own_go (fun _ => XS.ifYes X0.here hx rfl (pc0 := 3) (pc' := 8) rfl (hb hby d9_3) rfl ((if0 _ _).trans (flt hc1).2.1) (by decide) (by decide)) ?_
    refine own_go (fun _ => XS.dloadN X0.here hx rfl (hb hby d9_8) rfl) ?_
    refine own_go (fun _ => XS.dloadN X0.here hx rfl (hb hby d9_9) rfl) ?_
    refine own_go (fun _ => XS.dcmpS X0.here hx rfl (hb hby d9_10) rfl (v := (cmpValue (FP.dcmp A1 A2) .l)) rfl) ?_
    show ∃ t o, Steps p.tables e below (s₁.setTop (mkF m 11 #[.val (.double A1), .second, .val (.double A2), .second, .unset, .unset, .unset, .unset] [(.int (cmpValue (FP.dcmp A1 A2) .l))])) t ∧ _
    by_cases hc2 : (0 : Int32) < (cmpValue (FP.dcmp A1 A2) .l)
    · refine own_go (fun _ => XS.ifNo X0.here hx rfl (hb hby d9_11) rfl ((if0 _ _).trans (tlt hc2).2.2.2)) ?_
      refine own_go (fun _ => XS.iconst X0.here hx rfl (hb hby d9_14)) ?_
      show ∃ t o, Steps p.tables e below (s₁.setTop (mkF m 15 #[.val (.double A1), .second, .val (.double A2), .second, .unset, .unset, .unset, .unset] [(.int (1 : Int32))])) t ∧ _
      obtain ⟨fs, hr, hrun, hended, hW, hsame⟩ := X0.leave (v := some (.int (1 : Int32))) (fun h => by rw [Bd.returns] at h; cases h)
      refine ⟨_, _, ?_, hrun, hended, _, _, rfl, ?_, ⟨_, rfl⟩, hW, hsame.mono (by decide) (by decide)⟩
      · exact retI X0 hx Bd.returns (hb hby d9_15) hr
      · show Q_rmCmp Z _ _ h0 n0 _ s₁.heap _
        rw [e0]
        exact ⟨(1 : Int32), rfl, N0, rfl⟩
    · refine own_go (fun _ => XS.ifYes X0.here hx rfl (pc0 := 11) (pc' := 16) rfl (hb hby d9_11) rfl ((if0 _ _).trans (flt hc2).2.2.2) (by decide) (by decide)) ?_
      refine own_go (fun _ => XS.dloadN X0.here hx rfl (hb hby d9_16) rfl) ?_
      show ∃ t o, Steps p.tables e below (s₁.setTop (mkF m 17 #[.val (.double A1), .second, .val (.double A2), .second, .unset, .unset, .unset, .unset] [(.double A1)])) t ∧ _
      obtain ⟨_, _, ⟨T3, L3, k3, n3⟩, -, X3, ⟨Lc3, hQ3, l3, y3, z3⟩, st3⟩ := Jvm.LawKit.callS X0 hx (y := (⟨"java/lang/Double", "doubleToLongBits", "(D)J"⟩ : MethodName)) hown (mvT hZ w_63) (mvT hZ w_64) (mvT hZ w_61) (mvT hZ w_65) (by decide) (backOf (W := 0) (rmBits l Z a0 hw [] A1 h0 n0 Z0 OLD nA1) hZ w_65 w_61 (by decide) (by decide)) (g := (mkF m 17 #[.val (.double A1), .second, .val (.double A2), .second, .unset, .unset, .unset, .unset] [(.double A1)])) rfl (by rw [hml]; rfl) (argsL := [(.double A1)]) (rest := []) (lenOf pd__28D_29J rfl) rfl (by show 2 * 0 + _ ≤ _; exact Nat.le_of_eq rfl) (hb hby d9_17) (fun _ _ => ⟨rfl, e0, (by decide : 0 + 0 ≤ _), (by decide : 0 + 0 ≤ _)⟩)
      dsimp only [Pt.U, Pt.locs, Pt.cells, Pt.slots] at X3 l3 y3 z3 st3 hQ3
      rw [l3, y3, z3] at X3
      obtain ⟨r1_3, rfl, Nq3, e3⟩ := hQ3
      have N3 := Fr.app N0 Nq3
      refine own_go st3 ?_
      refine own_go (fun _ => XS.lstore X3.here hx rfl (hb hby d9_20) rfl (l' := #[.val (.double A1), .second, .val (.double A2), .second, .val (.long r1_3), .second, .unset, .unset]) rfl) ?_
      refine own_go (fun _ => XS.dloadN X3.here hx rfl (hb hby d9_22) rfl) ?_
      show ∃ t o, Steps p.tables e below (T3.setTop (mkF m 23 #[.val (.double A1), .second, .val (.double A2), .second, .val (.long r1_3), .second, .unset, .unset] [(.double A2)])) t ∧ _
      obtain ⟨_, _, ⟨T4, L4, k4, n4⟩, -, X4, ⟨Lc4, hQ4, l4, y4, z4⟩, st4⟩ := Jvm.LawKit.callS X3 hx (y := (⟨"java/lang/Double", "doubleToLongBits", "(D)J"⟩ : MethodName)) hown (mvT hZ w_63) (mvT hZ w_64) (mvT hZ w_61) (mvT hZ w_65) (by decide) (backOf (W := 0) (rmBits l Z a0 hw [] A2 h0 n0 Z0 OLD nA2) hZ w_65 w_61 (by decide) (by decide)) (g := (mkF m 23 #[.val (.double A1), .second, .val (.double A2), .second, .val (.long r1_3), .second, .unset, .unset] [(.double A2)])) rfl (by rw [hml]; rfl) (argsL := [(.double A2)]) (rest := []) (lenOf pd__28D_29J rfl) rfl (by show 2 * 0 + _ ≤ _; exact Nat.le_of_eq rfl) (hb hby d9_23) (fun _ _ => ⟨rfl, e3, (by decide : 0 + 0 ≤ _), (by decide : 0 + 0 ≤ _)⟩)
      dsimp only [Pt.U, Pt.locs, Pt.cells, Pt.slots] at X4 l4 y4 z4 st4 hQ4
      rw [l4, y4, z4] at X4
      obtain ⟨r1_4, rfl, Nq4, e4⟩ := hQ4
      have N4 := Fr.app N3 Nq4
      refine own_go st4 ?_
      refine own_go (fun _ => XS.lstore X4.here hx rfl (hb hby d9_26) rfl (l' := #[.val (.double A1), .second, .val (.double A2), .second, .val (.long r1_3), .second, .val (.long r1_4), .second]) rfl) ?_
      refine own_go (fun _ => XS.lload X4.here hx rfl (hb hby d9_28) rfl) ?_
      refine own_go (fun _ => XS.lload X4.here hx rfl (hb hby d9_30) rfl) ?_
      refine own_go (fun _ => XS.lcmp X4.here hx rfl (hb hby d9_32) rfl) ?_
      show ∃ t o, Steps p.tables e below (T4.setTop (mkF m 33 #[.val (.double A1), .second, .val (.double A2), .second, .val (.long r1_3), .second, .val (.long r1_4), .second] [(.int (lcmpW r1_3 r1_4))])) t ∧ _
      by_cases hc5 : r1_3 = r1_4
      · refine own_go (fun _ => XS.ifNo X4.here hx rfl (hb hby d9_33) rfl ((if0 _ _).trans (teq ((lw_eq _ _).mpr hc5)).2)) ?_
        refine own_go (fun _ => XS.iconst X4.here hx rfl (hb hby d9_36)) ?_
        refine own_go (fun _ => XS.goto X4.here hx rfl (pc0 := 37) (pc' := 53) rfl (hb hby d9_37) (by decide) (by decide)) ?_
        show ∃ t o, Steps p.tables e below (T4.setTop (mkF m 53 #[.val (.double A1), .second, .val (.double A2), .second, .val (.long r1_3), .second, .val (.long r1_4), .second] [(.int (0 : Int32))])) t ∧ _
        obtain ⟨fs, hr, hrun, hended, hW, hsame⟩ := X4.leave (v := some (.int (0 : Int32))) (fun h => by rw [Bd.returns] at h; cases h)
        refine ⟨_, _, ?_, hrun, hended, _, _, rfl, ?_, ⟨_, rfl⟩, hW, hsame.mono (by decide) (by decide)⟩
        · exact retI X4 hx Bd.returns (hb hby d9_53) hr
        · show Q_rmCmp Z _ _ h0 n0 _ T4.heap _
          rw [e4]
          exact ⟨(0 : Int32), rfl, N4, rfl⟩
      · refine own_go (fun _ => XS.ifYes X4.here hx rfl (pc0 := 33) (pc' := 40) rfl (hb hby d9_33) rfl ((if0 _ _).trans (feq (mt (lw_eq _ _).mp hc5)).2) (by decide) (by decide)) ?_
        refine own_go (fun _ => XS.lload X4.here hx rfl (hb hby d9_40) rfl) ?_
        refine own_go (fun _ => XS.lload X4.here hx rfl (hb hby d9_42) rfl) ?_
        refine own_go (fun _ => XS.lcmp X4.here hx rfl (hb hby d9_44) rfl) ?_
        show ∃ t o, Steps p.tables e below (T4.setTop (mkF m 45 #[.val (.double A1), .second, .val (.double A2), .second, .val (.long r1_3), .second, .val (.long r1_4), .second] [(.int (lcmpW r1_3 r1_4))])) t ∧ _
        by_cases hc6 : r1_3 < r1_4
        · refine own_go (fun _ => XS.ifNo X4.here hx rfl (hb hby d9_45) rfl ((if0 _ _).trans (tlt ((lw_lt _ _).mpr hc6)).2.1)) ?_
          refine own_go (fun _ => XS.iconst X4.here hx rfl (hb hby d9_48)) ?_
          refine own_go (fun _ => XS.goto X4.here hx rfl (pc0 := 49) (pc' := 53) rfl (hb hby d9_49) (by decide) (by decide)) ?_
          show ∃ t o, Steps p.tables e below (T4.setTop (mkF m 53 #[.val (.double A1), .second, .val (.double A2), .second, .val (.long r1_3), .second, .val (.long r1_4), .second] [(.int (-1 : Int32))])) t ∧ _
          obtain ⟨fs, hr, hrun, hended, hW, hsame⟩ := X4.leave (v := some (.int (-1 : Int32))) (fun h => by rw [Bd.returns] at h; cases h)
          refine ⟨_, _, ?_, hrun, hended, _, _, rfl, ?_, ⟨_, rfl⟩, hW, hsame.mono (by decide) (by decide)⟩
          · exact retI X4 hx Bd.returns (hb hby d9_53) hr
          · show Q_rmCmp Z _ _ h0 n0 _ T4.heap _
            rw [e4]
            exact ⟨(-1 : Int32), rfl, N4, rfl⟩
        · refine own_go (fun _ => XS.ifYes X4.here hx rfl (pc0 := 45) (pc' := 52) rfl (hb hby d9_45) rfl ((if0 _ _).trans (flt (mt (lw_lt _ _).mp hc6)).2.1) (by decide) (by decide)) ?_
          refine own_go (fun _ => XS.iconst X4.here hx rfl (hb hby d9_52)) ?_
          show ∃ t o, Steps p.tables e below (T4.setTop (mkF m 53 #[.val (.double A1), .second, .val (.double A2), .second, .val (.long r1_3), .second, .val (.long r1_4), .second] [(.int (1 : Int32))])) t ∧ _
          obtain ⟨fs, hr, hrun, hended, hW, hsame⟩ := X4.leave (v := some (.int (1 : Int32))) (fun h => by rw [Bd.returns] at h; cases h)
          refine ⟨_, _, ?_, hrun, hended, _, _, rfl, ?_, ⟨_, rfl⟩, hW, hsame.mono (by decide) (by decide)⟩
          · exact retI X4 hx Bd.returns (hb hby d9_53) hr
          · show Q_rmCmp Z _ _ h0 n0 _ T4.heap _
            rw [e4]
            exact ⟨(1 : Int32), rfl, N4, rfl⟩
theorem ef_rmPlay (m : MethodId) (x0 : Nat) (x1 : Int32) : entryFrame m #[(.ref x0), (.int x1)] 6 = mkF m 0 #[.val (.ref x0), .val (.int x1), .unset, .unset, .unset, .unset] [] := by first | (simp [entryFrame, mkF, argsToLocals, Value.category]; done) | rfl
theorem d8_0 : decode prog_164_method_9_code 0 = .ok (.aload_n 0, 1) := by decide +kernel
theorem d8_1 : decode prog_164_method_9_code 1 = .ok (.getfield 35, 3) := by decide +kernel
theorem d8_4 : decode prog_164_method_9_code 4 = .ok (.iconst 2, 1) := by decide +kernel
theorem d8_5 : decode prog_164_method_9_code 5 = .ok (.iload_n 1, 1) := by decide +kernel
theorem d8_6 : decode prog_164_method_9_code 6 = .ok (.imul, 1) := by decide +kernel
theorem d8_7 : decode prog_164_method_9_code 7 = .ok (.iaload, 1) := by decide +kernel
theorem d8_8 : decode prog_164_method_9_code 8 = .ok (.istore_n 2, 1) := by decide +kernel
theorem d8_9 : decode prog_164_method_9_code 9 = .ok (.aload_n 0, 1) := by decide +kernel
theorem d8_10 : decode prog_164_method_9_code 10 = .ok (.getfield 35, 3) := by decide +kernel
theorem d8_13 : decode prog_164_method_9_code 13 = .ok (.iconst 2, 1) := by decide +kernel
theorem d8_14 : decode prog_164_method_9_code 14 = .ok (.iload_n 1, 1) := by decide +kernel
theorem d8_15 : decode prog_164_method_9_code 15 = .ok (.imul, 1) := by decide +kernel
theorem d8_16 : decode prog_164_method_9_code 16 = .ok (.iconst 1, 1) := by decide +kernel
theorem d8_17 : decode prog_164_method_9_code 17 = .ok (.iadd, 1) := by decide +kernel
theorem d8_18 : decode prog_164_method_9_code 18 = .ok (.iaload, 1) := by decide +kernel
theorem d8_19 : decode prog_164_method_9_code 19 = .ok (.istore_n 3, 1) := by decide +kernel
theorem d8_20 : decode prog_164_method_9_code 20 = .ok (.aload_n 0, 1) := by decide +kernel
theorem d8_21 : decode prog_164_method_9_code 21 = .ok (.getfield 27, 3) := by decide +kernel
theorem d8_24 : decode prog_164_method_9_code 24 = .ok (.iload_n 3, 1) := by decide +kernel
theorem d8_25 : decode prog_164_method_9_code 25 = .ok (.daload, 1) := by decide +kernel
theorem d8_26 : decode prog_164_method_9_code 26 = .ok (.aload_n 0, 1) := by decide +kernel
theorem d8_27 : decode prog_164_method_9_code 27 = .ok (.getfield 27, 3) := by decide +kernel
theorem d8_30 : decode prog_164_method_9_code 30 = .ok (.iload_n 2, 1) := by decide +kernel
theorem d8_31 : decode prog_164_method_9_code 31 = .ok (.daload, 1) := by decide +kernel
theorem d8_32 : decode prog_164_method_9_code 32 = .ok (.invokestatic 103, 3) := by decide +kernel
theorem pd__28DD_29I : parseMethodDescriptor "(DD)I" = some ⟨[.double, .double], some .int⟩ := by decide +kernel
theorem d8_35 : decode prog_164_method_9_code 35 = .ok (.istore 4, 2) := by decide +kernel
theorem d8_37 : decode prog_164_method_9_code 37 = .ok (.iload 4, 2) := by decide +kernel
theorem d8_39 : decode prog_164_method_9_code 39 = .ok (.ifCond .lt 24, 3) := by decide +kernel
theorem d8_63 : decode prog_164_method_9_code 63 = .ok (.iconst 1, 1) := by decide +kernel
theorem d8_64 : decode prog_164_method_9_code 64 = .ok (.goto 4, 3) := by decide +kernel
theorem d8_68 : decode prog_164_method_9_code 68 = .ok (.istore 5, 2) := by decide +kernel
theorem d8_70 : decode prog_164_method_9_code 70 = .ok (.aload_n 0, 1) := by decide +kernel
theorem d8_71 : decode prog_164_method_9_code 71 = .ok (.getfield 35, 3) := by decide +kernel
theorem d8_74 : decode prog_164_method_9_code 74 = .ok (.iload_n 1, 1) := by decide +kernel
theorem d8_75 : decode prog_164_method_9_code 75 = .ok (.iload 5, 2) := by decide +kernel
theorem d8_77 : decode prog_164_method_9_code 77 = .ok (.ifCond .eq 7, 3) := by decide +kernel
theorem d8_80 : decode prog_164_method_9_code 80 = .ok (.iload_n 3, 1) := by decide +kernel
theorem d8_81 : decode prog_164_method_9_code 81 = .ok (.goto 4, 3) := by decide +kernel
theorem d8_85 : decode prog_164_method_9_code 85 = .ok (.iastore, 1) := by decide +kernel
theorem d8_86 : decode prog_164_method_9_code 86 = .ok (.return_, 1) := by decide +kernel
theorem d8_42 : decode prog_164_method_9_code 42 = .ok (.iload 4, 2) := by decide +kernel
theorem d8_44 : decode prog_164_method_9_code 44 = .ok (.ifCond .ne 23, 3) := by decide +kernel
theorem d8_47 : decode prog_164_method_9_code 47 = .ok (.aload_n 0, 1) := by decide +kernel
theorem d8_48 : decode prog_164_method_9_code 48 = .ok (.getfield 31, 3) := by decide +kernel
theorem d8_51 : decode prog_164_method_9_code 51 = .ok (.iload_n 3, 1) := by decide +kernel
theorem d8_52 : decode prog_164_method_9_code 52 = .ok (.laload, 1) := by decide +kernel
theorem d8_53 : decode prog_164_method_9_code 53 = .ok (.aload_n 0, 1) := by decide +kernel
theorem d8_54 : decode prog_164_method_9_code 54 = .ok (.getfield 31, 3) := by decide +kernel
theorem d8_57 : decode prog_164_method_9_code 57 = .ok (.iload_n 2, 1) := by decide +kernel
theorem d8_58 : decode prog_164_method_9_code 58 = .ok (.laload, 1) := by decide +kernel
theorem d8_59 : decode prog_164_method_9_code 59 = .ok (.lcmp, 1) := by decide +kernel
theorem d8_60 : decode prog_164_method_9_code 60 = .ok (.ifCond .ge 7, 3) := by decide +kernel
theorem d8_67 : decode prog_164_method_9_code 67 = .ok (.iconst 0, 1) := by decide +kernel
theorem d8_84 : decode prog_164_method_9_code 84 = .ok (.iload_n 2, 1) := by decide +kernel
theorem pn_com_example_holdback_holdback_sim_EventQueue : plainName "com/example/holdback/holdback/sim/EventQueue" = true := by first | (simp [plainName, overriddenIn]; done) | decide +kernel
def Q_rmPlay (Z : State) (q1 : Nat) (fa : Nat) (fp : Nat) (wi : Nat) (kf : ClassId) (kp : ClassId) (kw : ClassId) (ds : List Value) (ls : List Value) (wl : List Value) (zN : Int32) (z2 : Int32) (nd : Int32) (h0 : Heap) (n0 : Nat) (v : Option Value) (h : Heap) (L : List Loc) : Prop := ∃ (wl2 : List Value), v = none ∧ Fr n0 L ∧ Keep h0 h [wi] ∧ Arv Z h wi kw .int z2 wl2 (.int (0 : Int32)) ∧ (own_G (own_pw zN) (.int (0 : Int32)) z2 wl2)
set_option maxRecDepth 65536 in
set_option maxHeartbeats 40000000 in
theorem rmPlay (l : Launch) (Z : State) (a0 : Array Value) (hw : ∀ d ∈ tables_1, d.before a0 Z = true) (ws : List Jvm.Cond) (q1 : Nat) (fa : Nat) (fp : Nat) (wi : Nat) (kf : ClassId) (kp : ClassId) (kw : ClassId) (ds : List Value) (ls : List Value) (wl : List Value) (zN : Int32) (z2 : Int32) (nd : Int32) (h0 : Heap) (n0 : Nat) (Z0 : n0 ≤ h0.size) (P1 : Exa Z h0 q1 "com/example/holdback/holdback/sim/EventQueue") (P2 : Fld Z h0 q1 "com/example/holdback/holdback/sim/EventQueue" "firstAt" "[D" (.ref fa)) (P3 : Fld Z h0 q1 "com/example/holdback/holdback/sim/EventQueue" "firstPlace" "[J" (.ref fp)) (P4 : Fld Z h0 q1 "com/example/holdback/holdback/sim/EventQueue" "winners" "[I" (.ref wi)) (P5 : Arv Z h0 fa kf .double zN ds (.double (0 : UInt64))) (P6 : Arv Z h0 fp kp .long zN ls (.long (0 : Int64))) (P7 : Arv Z h0 wi kw .int z2 wl (.int (0 : Int32))) (OLD : Old Z n0 h0) (GD : own_G own_pd (.double (0 : UInt64)) zN ds) (GJ : own_G own_pj (.long (0 : Int64)) zN ls) (GW : own_G (own_pw zN) (.int (0 : Int32)) z2 wl) (HN : own_N zN z2) (hn1 : (0 : Int32) < nd) (hn2 : nd < zN) (gw : n0 ≤ wi) (oq : q1 < wi) (of : fa < wi) (op : fp < wi) :
    MetFree l (⟨"com/example/holdback/holdback/sim/EventQueue", "play", "(I)V"⟩ : MethodName) (head1 (Jvm.Cond.code (⟨"com/example/holdback/holdback/sim/EventQueue", "play", "(I)V"⟩ : MethodName) prog_164_method_9_code 6 none :: ws) ({ frames := 3, cells := 0, slots := 0, locals := 92 } : Room)) (fun a U => a = #[(.ref q1), (.int nd)] ∧ Z.Warmed39 U.vm ∧ U.heap = h0) (fun _ _ _ _ _ => True) (fun _ U o U' => ∃ v L, o = .returned v ∧ Q_rmPlay Z q1 fa fp wi kf kp kw ds ls wl zN z2 nd h0 n0 v U'.heap L ∧ FrameEnd U o U' L ({ frames := 3, cells := 0, slots := 0, locals := 92 } : Room).cells ({ frames := 3, cells := 0, slots := 0, locals := 92 } : Room).slots) := by
  refine MetFree.of_bodySF (plainFor_of_name pn_com_example_holdback_holdback_sim_EventQueue) hisR ?_
  intro p e s m args below meth c s₁ Bd hml0 hP hK
  obtain ⟨rfl, hZ, hh⟩ := hP
  have hx := Bd.exec
  have hby := Bd.bytes
  have hml : c.maxLocals = 6 := hml0
  have hown : s.vm.findClass "com/example/holdback/holdback/sim/EventQueue" = some m.cls := findClass_of_methodNamed Bd.named
  have hnm := (name_of_methodNamed Bd.named Bd.method).1
  have X0 : Stand p l e ({ frames := 3, cells := 0, slots := 0, locals := 92 } : Room) s m #[(.ref q1), (.int nd)] below meth c s₁ [] 0 0 := Stand.of_body Bd
  have e0 : s₁.heap = h0 := by rw [← hh, Bd.state]; rfl
  have N0 := Fr.nil n0
  have pre0 : ∀ t, Steps p.tables e below (s₁.setTop (mkF m 0 #[.val (.ref q1), .val (.int nd), .unset, .unset, .unset, .unset] [])) t → Steps p.tables e below (s₁.setTop (entryFrame m #[(.ref q1), (.int nd)] 6)) t := fun t k => castTop (ef_rmPlay m q1 nd) k
  have w_30 := hw _ (List.mem_of_getElem? (i := 30) rfl)
  have w_33 := hw _ (List.mem_of_getElem? (i := 33) rfl)
  have w_36 := hw _ (List.mem_of_getElem? (i := 36) rfl)
  have w_61 := hw _ (List.mem_of_getElem? (i := 61) rfl)
  have w_62 := hw _ (List.mem_of_getElem? (i := 62) rfl)
  have oz := OLD.1
  have lt_fa : fa < h0.size := P5.lt
  have lt_fp : fp < h0.size := P6.lt
  have lt_q1 : q1 < h0.size := P1.lt
  have lt_wi : wi < h0.size := P7.lt
  refine own_go (B := s₁.setTop (mkF m 0 #[.val (.ref q1), .val (.int nd), .unset, .unset, .unset, .unset] [])) pre0 ?_
  show ∃ t o, Steps p.tables e below (s₁.setTop (mkF m 0 #[.val (.ref q1), .val (.int nd), .unset, .unset, .unset, .unset] [])) t ∧ _
  refine own_go (fun _ => XS.aloadN X0.here hx rfl (hb hby d8_0) rfl rfl) ?_
  obtain ⟨T8, X8, e8, st8⟩ := getF X0 hx hZ hown (host := "") (Or.inl w_36) Via.refl e0 P4 (g := (mkF m 1 #[.val (.ref q1), .val (.int nd), .unset, .unset, .unset, .unset] [(.ref q1)])) rfl rfl (hb hby d8_1)
  refine own_go st8 ?_
  refine own_go (fun _ => XS.iconst X8.here hx rfl (hb hby d8_4)) ?_
  refine own_go (fun _ => XS.iloadN X8.here hx rfl (hb hby d8_5) rfl) ?_
  refine own_go (fun _ => XS.imul X8.here hx rfl (hb hby d8_6) rfl) ?_
  have ib10 : ¬ ((2 : Int32) * nd) < 0 ∧ ((2 : Int32) * nd) < z2 := (own_i2 HN hn1 hn2).1
  obtain ⟨ii11, hd11, bb11⟩ := GW.at ib10
  obtain ⟨cl9, Ar9, q9, S9, N9, H9, G9⟩ := id P7
  have hin9 : ¬ (((2 : Int32) * nd) < 0 ∨ cl9.slots.size ≤ (((2 : Int32) * nd)).toNatClampNeg) := inb_of S9 ib10
  have hat9 : cl9.slots[(((2 : Int32) * nd)).toNatClampNeg]? = some (.int ii11) := Has.at H9 hin9 hd11
  refine own_go (fun _ => X8.iaload hx (j := ((2 : Int32) * nd)) (v := (.int ii11)) (by rw [e8]; exact Ar9.1) (State.isArrayOf_alike hZ.alike Ar9.2.1) Ar9.2.2 hin9 hat9 (g := (mkF m 7 #[.val (.ref q1), .val (.int nd), .unset, .unset, .unset, .unset] [(.int ((2 : Int32) * nd)), (.ref wi)])) rfl rfl (hb hby d8_7) _) ?_
  refine own_go (fun _ => XS.istoreN X8.here hx rfl (hb hby d8_8) rfl (l' := #[.val (.ref q1), .val (.int nd), .val (.int ii11), .unset, .unset, .unset]) rfl) ?_
  refine own_go (fun _ => XS.aloadN X8.here hx rfl (hb hby d8_9) rfl rfl) ?_
  show ∃ t o, Steps p.tables e below (T8.setTop (mkF m 10 #[.val (.ref q1), .val (.int nd), .val (.int ii11), .unset, .unset, .unset] [(.ref q1)])) t ∧ _
  obtain ⟨T12, X12, e12, st12⟩ := getF X8 hx hZ hown (host := "") (Or.inl w_36) Via.refl e8 P4 (g := (mkF m 10 #[.val (.ref q1), .val (.int nd), .val (.int ii11), .unset, .unset, .unset] [(.ref q1)])) rfl rfl (hb hby d8_10)
  refine own_go st12 ?_
  refine own_go (fun _ => XS.iconst X12.here hx rfl (hb hby d8_13)) ?_
  refine own_go (fun _ => XS.iloadN X12.here hx rfl (hb hby d8_14) rfl) ?_
  refine own_go (fun _ => XS.imul X12.here hx rfl (hb hby d8_15) rfl) ?_
  refine own_go (fun _ => XS.iconst X12.here hx rfl (hb hby d8_16)) ?_
  refine own_go (fun _ => XS.iadd X12.here hx rfl (hb hby d8_17) rfl) ?_
  have ib14 : ¬ (((2 : Int32) * nd) + (1 : Int32)) < 0 ∧ (((2 : Int32) * nd) + (1 : Int32)) < z2 := (own_i2 HN hn1 hn2).2.1
  obtain ⟨ii15, hd15, bb15⟩ := GW.at ib14
  obtain ⟨cl13, Ar13, q13, S13, N13, H13, G13⟩ := id P7
  have hin13 : ¬ ((((2 : Int32) * nd) + (1 : Int32)) < 0 ∨ cl13.slots.size ≤ ((((2 : Int32) * nd) + (1 : Int32))).toNatClampNeg) := inb_of S13 ib14
  have hat13 : cl13.slots[((((2 : Int32) * nd) + (1 : Int32))).toNatClampNeg]? = some (.int ii15) := Has.at H13 hin13 hd15
  refine own_go (fun _ => X12.iaload hx (j := (((2 : Int32) * nd) + (1 : Int32))) (v := (.int ii15)) (by rw [e12]; exact Ar13.1) (State.isArrayOf_alike hZ.alike Ar13.2.1) Ar13.2.2 hin13 hat13 (g := (mkF m 18 #[.val (.ref q1), .val (.int nd), .val (.int ii11), .unset, .unset, .unset] [(.int (((2 : Int32) * nd) + (1 : Int32))), (.ref wi)])) rfl rfl (hb hby d8_18) _) ?_
  refine own_go (fun _ => XS.istoreN X12.here hx rfl (hb hby d8_19) rfl (l' := #[.val (.ref q1), .val (.int nd), .val (.int ii11), .val (.int ii15), .unset, .unset]) rfl) ?_
  show ∃ t o, Steps p.tables e below (T12.setTop (mkF m 20 #[.val (.ref q1), .val (.int nd), .val (.int ii11), .val (.int ii15), .unset, .unset] [])) t ∧ _
  refine own_go (fun _ => XS.aloadN X12.here hx rfl (hb hby d8_20) rfl rfl) ?_
  obtain ⟨T16, X16, e16, st16⟩ := getF X12 hx hZ hown (host := "") (Or.inl w_30) Via.refl e12 P2 (g := (mkF m 21 #[.val (.ref q1), .val (.int nd), .val (.int ii11), .val (.int ii15), .unset, .unset] [(.ref q1)])) rfl rfl (hb hby d8_21)
  refine own_go st16 ?_
  refine own_go (fun _ => XS.iloadN X16.here hx rfl (hb hby d8_24) rfl) ?_
  have ib18 : ¬ ii15 < 0 ∧ ii15 < zN := bb15
  obtain ⟨dd19, hd19, nn19⟩ := GD.at ib18
  obtain ⟨cl17, Ar17, q17, S17, N17, H17, G17⟩ := id P5
  have hin17 : ¬ (ii15 < 0 ∨ cl17.slots.size ≤ (ii15).toNatClampNeg) := inb_of S17 ib18
  have hat17 : cl17.slots[(ii15).toNatClampNeg]? = some (.double dd19) := Has.at H17 hin17 hd19
  refine own_go (fun _ => X16.daload hx (j := ii15) (v := (.double dd19)) (by rw [e16]; exact Ar17.1) (State.isArrayOf_alike hZ.alike Ar17.2.1) Ar17.2.2 hin17 hat17 (g := (mkF m 25 #[.val (.ref q1), .val (.int nd), .val (.int ii11), .val (.int ii15), .unset, .unset] [(.int ii15), (.ref fa)])) rfl rfl (hb hby d8_25) _) ?_
  refine own_go (fun _ => XS.aloadN X16.here hx rfl (hb hby d8_26) rfl rfl) ?_
  obtain ⟨T20, X20, e20, st20⟩ := getF X16 hx hZ hown (host := "") (Or.inl w_30) Via.refl e16 P2 (g := (mkF m 27 #[.val (.ref q1), .val (.int nd), .val (.int ii11), .val (.int ii15), .unset, .unset] [(.ref q1), (.double dd19)])) rfl rfl (hb hby d8_27)
  refine own_go st20 ?_
  refine own_go (fun _ => XS.iloadN X20.here hx rfl (hb hby d8_30) rfl) ?_
  have ib22 : ¬ ii11 < 0 ∧ ii11 < zN := bb11
  obtain ⟨dd23, hd23, nn23⟩ := GD.at ib22
  obtain ⟨cl21, Ar21, q21, S21, N21, H21, G21⟩ := id P5
  have hin21 : ¬ (ii11 < 0 ∨ cl21.slots.size ≤ (ii11).toNatClampNeg) := inb_of S21 ib22
  have hat21 : cl21.slots[(ii11).toNatClampNeg]? = some (.double dd23) := Has.at H21 hin21 hd23
  refine own_go (fun _ => X20.daload hx (j := ii11) (v := (.double dd23)) (by rw [e20]; exact Ar21.1) (State.isArrayOf_alike hZ.alike Ar21.2.1) Ar21.2.2 hin21 hat21 (g := (mkF m 31 #[.val (.ref q1), .val (.int nd), .val (.int ii11), .val (.int ii15), .unset, .unset] [(.int ii11), (.ref fa), (.double dd19)])) rfl rfl (hb hby d8_31) _) ?_
  show ∃ t o, Steps p.tables e below (T20.setTop (mkF m 32 #[.val (.ref q1), .val (.int nd), .val (.int ii11), .val (.int ii15), .unset, .unset] [(.double dd23), (.double dd19)])) t ∧ _
  obtain ⟨_, _, ⟨T24, L24, k24, n24⟩, -, X24, ⟨Lc24, hQ24, l24, y24, z24⟩, st24⟩ := Jvm.LawKit.callS X20 hx (y := (⟨"java/lang/Double", "compare", "(DD)I"⟩ : MethodName)) hown (mvT hZ (hw _ (List.mem_of_getElem? (i := 59) rfl))) (mvT hZ (hw _ (List.mem_of_getElem? (i := 60) rfl))) (mvT hZ w_61) (mvT hZ w_62) (by decide) (backOf (W := 0) (rmCmp l Z a0 hw [] dd19 dd23 h0 n0 Z0 OLD nn19 nn23) hZ w_62 w_61 (by decide) (by decide)) (g := (mkF m 32 #[.val (.ref q1), .val (.int nd), .val (.int ii11), .val (.int ii15), .unset, .unset] [(.double dd23), (.double dd19)])) rfl (by rw [hml]; rfl) (argsL := [(.double dd19), (.double dd23)]) (rest := []) (lenOf pd__28DD_29I rfl) rfl (by show 2 * 0 + _ ≤ _; exact Nat.le_of_eq rfl) (hb hby d8_32) (fun _ _ => ⟨rfl, e20, (by decide : 0 + 0 ≤ _), (by decide : 0 + 0 ≤ _)⟩)
  dsimp only [Pt.U, Pt.locs, Pt.cells, Pt.slots] at X24 l24 y24 z24 st24 hQ24
  rw [l24, y24, z24] at X24
  obtain ⟨r1_24, rfl, Nq24, e24⟩ := hQ24
  have N24 := Fr.app N0 Nq24
  refine own_go st24 ?_
  refine own_go (fun _ => XS.istore X24.here hx rfl (hb hby d8_35) rfl (l' := #[.val (.ref q1), .val (.int nd), .val (.int ii11), .val (.int ii15), .val (.int r1_24), .unset]) rfl) ?_
  refine own_go (fun _ => XS.iload X24.here hx rfl (hb hby d8_37) rfl) ?_
  show ∃ t o, Steps p.tables e below (T24.setTop (mkF m 39 #[.val (.ref q1), .val (.int nd), .val (.int ii11), .val (.int ii15), .val (.int r1_24), .unset] [(.int r1_24)])) t ∧ _
  by_cases hc25 : r1_24 < (0 : Int32)
  · refine own_go (fun _ => XS.ifYes X24.here hx rfl (pc0 := 39) (pc' := 63) rfl (hb hby d8_39) rfl ((if0 _ _).trans (tlt hc25).1) (by decide) (by decide)) ?_
    refine own_go (fun _ => XS.iconst X24.here hx rfl (hb hby d8_63)) ?_
    refine own_go (fun _ => XS.goto X24.here hx rfl (pc0 := 64) (pc' := 68) rfl (hb hby d8_64) (by decide) (by decide)) ?_
    refine own_go (fun _ => XS.istore X24.here hx rfl (hb hby d8_68) rfl (l' := #[.val (.ref q1), .val (.int nd), .val (.int ii11), .val (.int ii15), .val (.int r1_24), .val (.int (1 : Int32))]) rfl) ?_
    refine own_go (fun _ => XS.aloadN X24.here hx rfl (hb hby d8_70) rfl rfl) ?_
    obtain ⟨T26, X26, e26, st26⟩ := getF X24 hx hZ hown (host := "") (Or.inl w_36) Via.refl e24 P4 (g := (mkF m 71 #[.val (.ref q1), .val (.int nd), .val (.int ii11), .val (.int ii15), .val (.int r1_24), .val (.int (1 : Int32))] [(.ref q1)])) rfl rfl (hb hby d8_71)
    refine own_go st26 ?_
    refine own_go (fun _ => XS.iloadN X26.here hx rfl (hb hby d8_74) rfl) ?_
    refine own_go (fun _ => XS.iload X26.here hx rfl (hb hby d8_75) rfl) ?_
    show ∃ t o, Steps p.tables e below (T26.setTop (mkF m 77 #[.val (.ref q1), .val (.int nd), .val (.int ii11), .val (.int ii15), .val (.int r1_24), .val (.int (1 : Int32))] [(.int (1 : Int32)), (.int nd), (.ref wi)])) t ∧ _
    refine own_go (fun _ => XS.ifNo X26.here hx rfl (hb hby d8_77) rfl ((if0 _ _).trans (feq (by decide : ¬ ((1 : Int32) = (0 : Int32)))).1)) ?_
    refine own_go (fun _ => XS.iloadN X26.here hx rfl (hb hby d8_80) rfl) ?_
    refine own_go (fun _ => XS.goto X26.here hx rfl (pc0 := 81) (pc' := 85) rfl (hb hby d8_81) (by decide) (by decide)) ?_
    obtain ⟨cl27, Ar27, q27, S27, N27, H27, G27⟩ := id P7
    have ib28 : ¬ nd < 0 ∧ nd < z2 := (own_i2 HN hn1 hn2).2.2
    have Gs29 : own_G (own_pw zN) (.int (0 : Int32)) z2 (wl.set (nd).toNatClampNeg (.int ii15)) := own_G.set GW _ ⟨_, rfl, bb15⟩
    have hin27 : ¬ (nd < 0 ∨ cl27.slots.size ≤ (nd).toNatClampNeg) := inb_of S27 ib28
    obtain ⟨T30, h30, X30, e30, W30, st30⟩ := stI X26 hx hZ e26 Ar27 (j := nd) hin27 (g := (mkF m 85 #[.val (.ref q1), .val (.int nd), .val (.int ii11), .val (.int ii15), .val (.int r1_24), .val (.int (1 : Int32))] [(.int ii15), (.int nd), (.ref wi)])) rfl rfl (hb hby d8_85)
    refine own_go st30 ?_
    have le_30 : h0.size ≤ h30.size := Nat.le_of_eq W30.size.symm
    have K30 : Keep h0 h30 [wi] := Keep.wr (Keep.refl h0 [wi]) W30 (Or.inl (List.mem_of_getElem? (i := 0) rfl))
    have N30 := Fr.snoc X30 N24 gw
    have V30 : Arv Z h30 wi kw .int z2 (wl.set (nd).toNatClampNeg (.int ii15)) (.int (0 : Int32)) := Arv.set Ar27 q27 S27 N27 H27 G27 rfl W30 (nd).toNatClampNeg rfl (GW.len ib28)
    show ∃ t o, Steps p.tables e below (T30.setTop (mkF m 86 #[.val (.ref q1), .val (.int nd), .val (.int ii11), .val (.int ii15), .val (.int r1_24), .val (.int (1 : Int32))] [])) t ∧ _
    obtain ⟨fs, hr, hrun, hended, hW, hsame⟩ := X30.leave (v := none) (fun _ => rfl)
    refine ⟨_, _, ?_, hrun, hended, _, _, rfl, ?_, ⟨_, rfl⟩, hW, hsame.mono (by decide) (by decide)⟩
    · exact X30.returnOut hx Bd.returns (hb hby d8_86) hr
    · show Q_rmPlay Z _ _ _ _ _ _ _ _ _ _ _ _ _ h0 n0 _ T30.heap _
      rw [e30]
      exact ⟨(wl.set (nd).toNatClampNeg (.int ii15)), rfl, N30, K30, V30, Gs29⟩
  · refine own_go (fun _ => XS.ifNo X24.here hx rfl (hb hby d8_39) rfl ((if0 _ _).trans (flt hc25).1)) ?_
    refine own_go (fun _ => XS.iload X24.here hx rfl (hb hby d8_42) rfl) ?_
    show ∃ t o, Steps p.tables e below (T24.setTop (mkF m 44 #[.val (.ref q1), .val (.int nd), .val (.int ii11), .val (.int ii15), .val (.int r1_24), .unset] [(.int r1_24)])) t ∧ _
    by_cases hc31 : r1_24 = (0 : Int32)
    · refine own_go (fun _ => XS.ifNo X24.here hx rfl (hb hby d8_44) rfl ((if0 _ _).trans (teq hc31).2)) ?_
      refine own_go (fun _ => XS.aloadN X24.here hx rfl (hb hby d8_47) rfl rfl) ?_
      obtain ⟨T32, X32, e32, st32⟩ := getF X24 hx hZ hown (host := "") (Or.inl w_33) Via.refl e24 P3 (g := (mkF m 48 #[.val (.ref q1), .val (.int nd), .val (.int ii11), .val (.int ii15), .val (.int r1_24), .unset] [(.ref q1)])) rfl rfl (hb hby d8_48)
      refine own_go st32 ?_
      refine own_go (fun _ => XS.iloadN X32.here hx rfl (hb hby d8_51) rfl) ?_
      have ib34 : ¬ ii15 < 0 ∧ ii15 < zN := bb15
      obtain ⟨jj35, hd35⟩ := GJ.at ib34
      obtain ⟨cl33, Ar33, q33, S33, N33, H33, G33⟩ := id P6
      have hin33 : ¬ (ii15 < 0 ∨ cl33.slots.size ≤ (ii15).toNatClampNeg) := inb_of S33 ib34
      have hat33 : cl33.slots[(ii15).toNatClampNeg]? = some (.long jj35) := Has.at H33 hin33 hd35
      refine own_go (fun _ => X32.laload hx (j := ii15) (v := (.long jj35)) (by rw [e32]; exact Ar33.1) (State.isArrayOf_alike hZ.alike Ar33.2.1) Ar33.2.2 hin33 hat33 (g := (mkF m 52 #[.val (.ref q1), .val (.int nd), .val (.int ii11), .val (.int ii15), .val (.int r1_24), .unset] [(.int ii15), (.ref fp)])) rfl rfl (hb hby d8_52) _) ?_
      refine own_go (fun _ => XS.aloadN X32.here hx rfl (hb hby d8_53) rfl rfl) ?_
      obtain ⟨T36, X36, e36, st36⟩ := getF X32 hx hZ hown (host := "") (Or.inl w_33) Via.refl e32 P3 (g := (mkF m 54 #[.val (.ref q1), .val (.int nd), .val (.int ii11), .val (.int ii15), .val (.int r1_24), .unset] [(.ref q1), (.long jj35)])) rfl rfl (hb hby d8_54)
      refine own_go st36 ?_
      refine own_go (fun _ => XS.iloadN X36.here hx rfl (hb hby d8_57) rfl) ?_
      show ∃ t o, Steps p.tables e below (T36.setTop (mkF m 58 #[.val (.ref q1), .val (.int nd), .val (.int ii11), .val (.int ii15), .val (.int r1_24), .unset] [(.int ii11), (.ref fp), (.long jj35)])) t ∧ _
      have ib38 : ¬ ii11 < 0 ∧ ii11 < zN := bb11
      obtain ⟨jj39, hd39⟩ := GJ.at ib38
      obtain ⟨cl37, Ar37, q37, S37, N37, H37, G37⟩ := id P6
      have hin37 : ¬ (ii11 < 0 ∨ cl37.slots.size ≤ (ii11).toNatClampNeg) := inb_of S37 ib38
      have hat37 : cl37.slots[(ii11).toNatClampNeg]? = some (.long jj39) := Has.at H37 hin37 hd39
      refine own_go (fun _ => X36.laload hx (j := ii11) (v := (.long jj39)) (by rw [e36]; exact Ar37.1) (State.isArrayOf_alike hZ.alike Ar37.2.1) Ar37.2.2 hin37 hat37 (g := (mkF m 58 #[.val (.ref q1), .val (.int nd), .val (.int ii11), .val (.int ii15), .val (.int r1_24), .unset] [(.int ii11), (.ref fp), (.long jj35)])) rfl rfl (hb hby d8_58) _) ?_
      refine own_go (fun _ => XS.lcmp X36.here hx rfl (hb hby d8_59) rfl) ?_
      show ∃ t o, Steps p.tables e below (T36.setTop (mkF m 60 #[.val (.ref q1), .val (.int nd), .val (.int ii11), .val (.int ii15), .val (.int r1_24), .unset] [(.int (lcmpW jj35 jj39))])) t ∧ _
      by_cases hc40 : jj35 < jj39
      · refine own_go (fun _ => XS.ifNo X36.here hx rfl (hb hby d8_60) rfl ((if0 _ _).trans (tlt ((lw_lt _ _).mpr hc40)).2.1)) ?_
        refine own_go (fun _ => XS.iconst X36.here hx rfl (hb hby d8_63)) ?_
        refine own_go (fun _ => XS.goto X36.here hx rfl (pc0 := 64) (pc' := 68) rfl (hb hby d8_64) (by decide) (by decide)) ?_
        refine own_go (fun _ => XS.istore X36.here hx rfl (hb hby d8_68) rfl (l' := #[.val (.ref q1), .val (.int nd), .val (.int ii11), .val (.int ii15), .val (.int r1_24), .val (.int (1 : Int32))]) rfl) ?_
        refine own_go (fun _ => XS.aloadN X36.here hx rfl (hb hby d8_70) rfl rfl) ?_
        obtain ⟨T41, X41, e41, st41⟩ := getF X36 hx hZ hown (host := "") (Or.inl w_36) Via.refl e36 P4 (g := (mkF m 71 #[.val (.ref q1), .val (.int nd), .val (.int ii11), .val (.int ii15), .val (.int r1_24), .val (.int (1 : Int32))] [(.ref q1)])) rfl rfl (hb hby d8_71)
        refine own_go st41 ?_
        refine own_go (fun _ => XS.iloadN X41.here hx rfl (hb hby d8_74) rfl) ?_
        refine own_go (fun _ => XS.iload X41.here hx rfl (hb hby d8_75) rfl) ?_
        show ∃ t o, Steps p.tables e below (T41.setTop (mkF m 77 #[.val (.ref q1), .val (.int nd), .val (.int ii11), .val (.int ii15), .val (.int r1_24), .val (.int (1 : Int32))] [(.int (1 : Int32)), (.int nd), (.ref wi)])) t ∧ _
        refine own_go (fun _ => XS.ifNo X41.here hx rfl (hb hby d8_77) rfl ((if0 _ _).trans (feq (by decide : ¬ ((1 : Int32) = (0 : Int32)))).1)) ?_
        refine own_go (fun _ => XS.iloadN X41.here hx rfl (hb hby d8_80) rfl) ?_
        refine own_go (fun _ => XS.goto X41.here hx rfl (pc0 := 81) (pc' := 85) rfl (hb hby d8_81) (by decide) (by decide)) ?_
        obtain ⟨cl42, Ar42, q42, S42, N42, H42, G42⟩ := id P7
        have ib43 : ¬ nd < 0 ∧ nd < z2 := (own_i2 HN hn1 hn2).2.2
        have Gs44 : own_G (own_pw zN) (.int (0 : Int32)) z2 (wl.set (nd).toNatClampNeg (.int ii15)) := own_G.set GW _ ⟨_, rfl, bb15⟩
        have hin42 : ¬ (nd < 0 ∨ cl42.slots.size ≤ (nd).toNatClampNeg) := inb_of S42 ib43
        obtain ⟨T45, h45, X45, e45, W45, st45⟩ := stI X41 hx hZ e41 Ar42 (j := nd) hin42 (g := (mkF m 85 #[.val (.ref q1), .val (.int nd), .val (.int ii11), .val (.int ii15), .val (.int r1_24), .val (.int (1 : Int32))] [(.int ii15), (.int nd), (.ref wi)])) rfl rfl (hb hby d8_85)
        refine own_go st45 ?_
        have le_45 : h0.size ≤ h45.size := Nat.le_of_eq W45.size.symm
        have K45 : Keep h0 h45 [wi] := Keep.wr (Keep.refl h0 [wi]) W45 (Or.inl (List.mem_of_getElem? (i := 0) rfl))
        have N45 := Fr.snoc X45 N24 gw
        have V45 : Arv Z h45 wi kw .int z2 (wl.set (nd).toNatClampNeg (.int ii15)) (.int (0 : Int32)) := Arv.set Ar42 q42 S42 N42 H42 G42 rfl W45 (nd).toNatClampNeg rfl (GW.len ib43)
        show ∃ t o, Steps p.tables e below (T45.setTop (mkF m 86 #[.val (.ref q1), .val (.int nd), .val (.int ii11), .val (.int ii15), .val (.int r1_24), .val (.int (1 : Int32))] [])) t ∧ _
        obtain ⟨fs, hr, hrun, hended, hW, hsame⟩ := X45.leave (v := none) (fun _ => rfl)
        refine ⟨_, _, ?_, hrun, hended, _, _, rfl, ?_, ⟨_, rfl⟩, hW, hsame.mono (by decide) (by decide)⟩
        · exact X45.returnOut hx Bd.returns (hb hby d8_86) hr
        · show Q_rmPlay Z _ _ _ _ _ _ _ _ _ _ _ _ _ h0 n0 _ T45.heap _
          rw [e45]
          exact ⟨(wl.set (nd).toNatClampNeg (.int ii15)), rfl, N45, K45, V45, Gs44⟩
      · refine own_go (fun _ => XS.ifYes X36.here hx rfl (pc0 := 60) (pc' := 67) rfl (hb hby d8_60) rfl ((if0 _ _).trans (flt (mt (lw_lt _ _).mp hc40)).2.1) (by decide) (by decide)) ?_
        refine own_go (fun _ => XS.iconst X36.here hx rfl (hb hby d8_67)) ?_
        refine own_go (fun _ => XS.istore X36.here hx rfl (hb hby d8_68) rfl (l' := #[.val (.ref q1), .val (.int nd), .val (.int ii11), .val (.int ii15), .val (.int r1_24), .val (.int (0 : Int32))]) rfl) ?_
        refine own_go (fun _ => XS.aloadN X36.here hx rfl (hb hby d8_70) rfl rfl) ?_
        obtain ⟨T46, X46, e46, st46⟩ := getF X36 hx hZ hown (host := "") (Or.inl w_36) Via.refl e36 P4 (g := (mkF m 71 #[.val (.ref q1), .val (.int nd), .val (.int ii11), .val (.int ii15), .val (.int r1_24), .val (.int (0 : Int32))] [(.ref q1)])) rfl rfl (hb hby d8_71)
        refine own_go st46 ?_
        refine own_go (fun _ => XS.iloadN X46.here hx rfl (hb hby d8_74) rfl) ?_
        refine own_go (fun _ => XS.iload X46.here hx rfl (hb hby d8_75) rfl) ?_
        show ∃ t o, Steps p.tables e below (T46.setTop (mkF m 77 #[.val (.ref q1), .val (.int nd), .val (.int ii11), .val (.int ii15), .val (.int r1_24), .val (.int (0 : Int32))] [(.int (0 : Int32)), (.int nd), (.ref wi)])) t ∧ _
        refine own_go (fun _ => XS.ifYes X46.here hx rfl (pc0 := 77) (pc' := 84) rfl (hb hby d8_77) rfl ((if0 _ _).trans (teq (by decide : (0 : Int32) = (0 : Int32))).1) (by decide) (by decide)) ?_
        refine own_go (fun _ => XS.iloadN X46.here hx rfl (hb hby d8_84) rfl) ?_
        obtain ⟨cl47, Ar47, q47, S47, N47, H47, G47⟩ := id P7
        have ib48 : ¬ nd < 0 ∧ nd < z2 := (own_i2 HN hn1 hn2).2.2
        have Gs49 : own_G (own_pw zN) (.int (0 : Int32)) z2 (wl.set (nd).toNatClampNeg (.int ii11)) := own_G.set GW _ ⟨_, rfl, bb11⟩
        have hin47 : ¬ (nd < 0 ∨ cl47.slots.size ≤ (nd).toNatClampNeg) := inb_of S47 ib48
        obtain ⟨T50, h50, X50, e50, W50, st50⟩ := stI X46 hx hZ e46 Ar47 (j := nd) hin47 (g := (mkF m 85 #[.val (.ref q1), .val (.int nd), .val (.int ii11), .val (.int ii15), .val (.int r1_24), .val (.int (0 : Int32))] [(.int ii11), (.int nd), (.ref wi)])) rfl rfl (hb hby d8_85)
        refine own_go st50 ?_
        have le_50 : h0.size ≤ h50.size := Nat.le_of_eq W50.size.symm
        have K50 : Keep h0 h50 [wi] := Keep.wr (Keep.refl h0 [wi]) W50 (Or.inl (List.mem_of_getElem? (i := 0) rfl))
        have N50 := Fr.snoc X50 N24 gw
        have V50 : Arv Z h50 wi kw .int z2 (wl.set (nd).toNatClampNeg (.int ii11)) (.int (0 : Int32)) := Arv.set Ar47 q47 S47 N47 H47 G47 rfl W50 (nd).toNatClampNeg rfl (GW.len ib48)
        show ∃ t o, Steps p.tables e below (T50.setTop (mkF m 86 #[.val (.ref q1), .val (.int nd), .val (.int ii11), .val (.int ii15), .val (.int r1_24), .val (.int (0 : Int32))] [])) t ∧ _
        obtain ⟨fs, hr, hrun, hended, hW, hsame⟩ := X50.leave (v := none) (fun _ => rfl)
        refine ⟨_, _, ?_, hrun, hended, _, _, rfl, ?_, ⟨_, rfl⟩, hW, hsame.mono (by decide) (by decide)⟩
        · exact X50.returnOut hx Bd.returns (hb hby d8_86) hr
        · show Q_rmPlay Z _ _ _ _ _ _ _ _ _ _ _ _ _ h0 n0 _ T50.heap _
          rw [e50]
          exact ⟨(wl.set (nd).toNatClampNeg (.int ii11)), rfl, N50, K50, V50, Gs49⟩
    · refine own_go (fun _ => XS.ifYes X24.here hx rfl (pc0 := 44) (pc' := 67) rfl (hb hby d8_44) rfl ((if0 _ _).trans (feq hc31).2) (by decide) (by decide)) ?_
      refine own_go (fun _ => XS.iconst X24.here hx rfl (hb hby d8_67)) ?_
      refine own_go (fun _ => XS.istore X24.here hx rfl (hb hby d8_68) rfl (l' := #[.val (.ref q1), .val (.int nd), .val (.int ii11), .val (.int ii15), .val (.int r1_24), .val (.int (0 : Int32))]) rfl) ?_
      refine own_go (fun _ => XS.aloadN X24.here hx rfl (hb hby d8_70) rfl rfl) ?_
      obtain ⟨T51, X51, e51, st51⟩ := getF X24 hx hZ hown (host := "") (Or.inl w_36) Via.refl e24 P4 (g := (mkF m 71 #[.val (.ref q1), .val (.int nd), .val (.int ii11), .val (.int ii15), .val (.int r1_24), .val (.int (0 : Int32))] [(.ref q1)])) rfl rfl (hb hby d8_71)
      refine own_go st51 ?_
      refine own_go (fun _ => XS.iloadN X51.here hx rfl (hb hby d8_74) rfl) ?_
      refine own_go (fun _ => XS.iload X51.here hx rfl (hb hby d8_75) rfl) ?_
      show ∃ t o, Steps p.tables e below (T51.setTop (mkF m 77 #[.val (.ref q1), .val (.int nd), .val (.int ii11), .val (.int ii15), .val (.int r1_24), .val (.int (0 : Int32))] [(.int (0 : Int32)), (.int nd), (.ref wi)])) t ∧ _
      refine own_go (fun _ => XS.ifYes X51.here hx rfl (pc0 := 77) (pc' := 84) rfl (hb hby d8_77) rfl ((if0 _ _).trans (teq (by decide : (0 : Int32) = (0 : Int32))).1) (by decide) (by decide)) ?_
      refine own_go (fun _ => XS.iloadN X51.here hx rfl (hb hby d8_84) rfl) ?_
      obtain ⟨cl52, Ar52, q52, S52, N52, H52, G52⟩ := id P7
      have ib53 : ¬ nd < 0 ∧ nd < z2 := (own_i2 HN hn1 hn2).2.2
      have Gs54 : own_G (own_pw zN) (.int (0 : Int32)) z2 (wl.set (nd).toNatClampNeg (.int ii11)) := own_G.set GW _ ⟨_, rfl, bb11⟩
      have hin52 : ¬ (nd < 0 ∨ cl52.slots.size ≤ (nd).toNatClampNeg) := inb_of S52 ib53
      obtain ⟨T55, h55, X55, e55, W55, st55⟩ := stI X51 hx hZ e51 Ar52 (j := nd) hin52 (g := (mkF m 85 #[.val (.ref q1), .val (.int nd), .val (.int ii11), .val (.int ii15), .val (.int r1_24), .val (.int (0 : Int32))] [(.int ii11), (.int nd), (.ref wi)])) rfl rfl (hb hby d8_85)
      refine own_go st55 ?_
      have le_55 : h0.size ≤ h55.size := Nat.le_of_eq W55.size.symm
      have K55 : Keep h0 h55 [wi] := Keep.wr (Keep.refl h0 [wi]) W55 (Or.inl (List.mem_of_getElem? (i := 0) rfl))
      have N55 := Fr.snoc X55 N24 gw
      have V55 : Arv Z h55 wi kw .int z2 (wl.set (nd).toNatClampNeg (.int ii11)) (.int (0 : Int32)) := Arv.set Ar52 q52 S52 N52 H52 G52 rfl W55 (nd).toNatClampNeg rfl (GW.len ib53)
      show ∃ t o, Steps p.tables e below (T55.setTop (mkF m 86 #[.val (.ref q1), .val (.int nd), .val (.int ii11), .val (.int ii15), .val (.int r1_24), .val (.int (0 : Int32))] [])) t ∧ _
      obtain ⟨fs, hr, hrun, hended, hW, hsame⟩ := X55.leave (v := none) (fun _ => rfl)
      refine ⟨_, _, ?_, hrun, hended, _, _, rfl, ?_, ⟨_, rfl⟩, hW, hsame.mono (by decide) (by decide)⟩
      · exact X55.returnOut hx Bd.returns (hb hby d8_86) hr
      · show Q_rmPlay Z _ _ _ _ _ _ _ _ _ _ _ _ _ h0 n0 _ T55.heap _
        rw [e55]
        exact ⟨(wl.set (nd).toNatClampNeg (.int ii11)), rfl, N55, K55, V55, Gs54⟩
theorem ef_rmSI (m : MethodId) (x0 : Nat) : entryFrame m #[(.ref x0)] 1 = mkF m 0 #[.val (.ref x0)] [] := by first | (simp [entryFrame, mkF, argsToLocals, Value.category]; done) | rfl
theorem d7_0 : decode prog_165_method_1_code 0 = .ok (.aload_n 0, 1) := by decide +kernel
theorem d7_1 : decode prog_165_method_1_code 1 = .ok (.invokespecial 1, 3) := by decide +kernel
theorem d7_4 : decode prog_165_method_1_code 4 = .ok (.aload_n 0, 1) := by decide +kernel
theorem d7_5 : decode prog_165_method_1_code 5 = .ok (.bipush 8, 2) := by decide +kernel
theorem d7_7 : decode prog_165_method_1_code 7 = .ok (.newarray .double, 2) := by decide +kernel
theorem d7_9 : decode prog_165_method_1_code 9 = .ok (.putfield 7, 3) := by decide +kernel
theorem d7_12 : decode prog_165_method_1_code 12 = .ok (.aload_n 0, 1) := by decide +kernel
theorem d7_13 : decode prog_165_method_1_code 13 = .ok (.bipush 8, 2) := by decide +kernel
theorem d7_15 : decode prog_165_method_1_code 15 = .ok (.newarray .long, 2) := by decide +kernel
theorem d7_17 : decode prog_165_method_1_code 17 = .ok (.putfield 13, 3) := by decide +kernel
theorem d7_20 : decode prog_165_method_1_code 20 = .ok (.aload_n 0, 1) := by decide +kernel
theorem d7_21 : decode prog_165_method_1_code 21 = .ok (.bipush 8, 2) := by decide +kernel
theorem d7_23 : decode prog_165_method_1_code 23 = .ok (.anewarray 17, 3) := by decide +kernel
theorem d7_26 : decode prog_165_method_1_code 26 = .ok (.putfield 19, 3) := by decide +kernel
theorem d7_29 : decode prog_165_method_1_code 29 = .ok (.return_, 1) := by decide +kernel
theorem pn_com_example_holdback_holdback_sim_EventQueue_Stream : plainName "com/example/holdback/holdback/sim/EventQueue$Stream" = true := by first | (simp [plainName, overriddenIn]; done) | decide +kernel
def Q_rmSI (Z : State) (a1 : Nat) (h0 : Heap) (n0 : Nat) (v : Option Value) (h : Heap) (L : List Loc) : Prop := ∃ (am : Nat), ∃ (ap : Nat), ∃ (ac : Nat), ∃ (km : ClassId), ∃ (kp : ClassId), ∃ (kc : ClassId), v = none ∧ Fr n0 L ∧ Keep h0 h [a1] ∧ Fld Z h a1 "com/example/holdback/holdback/sim/EventQueue$Stream" "moments" "[D" (.ref am) ∧ Fld Z h a1 "com/example/holdback/holdback/sim/EventQueue$Stream" "places" "[J" (.ref ap) ∧ Fld Z h a1 "com/example/holdback/holdback/sim/EventQueue$Stream" "actions" "[Ljava/lang/Runnable;" (.ref ac) ∧ Fld Z h a1 "com/example/holdback/holdback/sim/EventQueue$Stream" "first" "I" (.int (0 : Int32)) ∧ Fld Z h a1 "com/example/holdback/holdback/sim/EventQueue$Stream" "size" "I" (.int (0 : Int32)) ∧ Fld Z h a1 "com/example/holdback/holdback/sim/EventQueue$Stream" "lastAt" "D" (defaultValue .double) ∧ Arv Z h am km .double (8 : Int32) [(.double (0 : UInt64)), (.double (0 : UInt64)), (.double (0 : UInt64)), (.double (0 : UInt64)), (.double (0 : UInt64)), (.double (0 : UInt64)), (.double (0 : UInt64)), (.double (0 : UInt64))] (.double (0 : UInt64)) ∧ Arv Z h ap kp .long (8 : Int32) [(.long (0 : Int64)), (.long (0 : Int64)), (.long (0 : Int64)), (.long (0 : Int64)), (.long (0 : Int64)), (.long (0 : Int64)), (.long (0 : Int64)), (.long (0 : Int64))] (.long (0 : Int64)) ∧ Arv Z h ac kc (.object "java/lang/Runnable") (8 : Int32) [.null, .null, .null, .null, .null, .null, .null, .null] .null ∧ (h0.size ≤ am) ∧ (am < ap) ∧ (ap < ac)
set_option maxRecDepth 65536 in
set_option maxHeartbeats 40000000 in
theorem rmSI (l : Launch) (Z : State) (a0 : Array Value) (hw : ∀ d ∈ tables_1, d.before a0 Z = true) (ws : List Jvm.Cond) (a1 : Nat) (h0 : Heap) (n0 : Nat) (Z0 : n0 ≤ h0.size) (P1 : Exa Z h0 a1 "com/example/holdback/holdback/sim/EventQueue$Stream") (P2 : Fld Z h0 a1 "com/example/holdback/holdback/sim/EventQueue$Stream" "moments" "[D" .null) (P3 : Fld Z h0 a1 "com/example/holdback/holdback/sim/EventQueue$Stream" "places" "[J" .null) (P4 : Fld Z h0 a1 "com/example/holdback/holdback/sim/EventQueue$Stream" "actions" "[Ljava/lang/Runnable;" .null) (P5 : Fld Z h0 a1 "com/example/holdback/holdback/sim/EventQueue$Stream" "first" "I" (.int (0 : Int32))) (P6 : Fld Z h0 a1 "com/example/holdback/holdback/sim/EventQueue$Stream" "size" "I" (.int (0 : Int32))) (P7 : Fld Z h0 a1 "com/example/holdback/holdback/sim/EventQueue$Stream" "lastAt" "D" (defaultValue .double)) (OLD : Old Z n0 h0) (ga : n0 ≤ a1) :
    MetFree l (⟨"com/example/holdback/holdback/sim/EventQueue$Stream", "<init>", "()V"⟩ : MethodName) (head1 (Jvm.Cond.code (⟨"com/example/holdback/holdback/sim/EventQueue$Stream", "<init>", "()V"⟩ : MethodName) prog_165_method_1_code 1 none :: ws) ({ frames := 1, cells := 3, slots := 24, locals := 12 } : Room)) (fun a U => a = #[(.ref a1)] ∧ Z.Warmed39 U.vm ∧ U.heap = h0) (fun _ _ _ _ _ => True) (fun _ U o U' => ∃ v L, o = .returned v ∧ Q_rmSI Z a1 h0 n0 v U'.heap L ∧ FrameEnd U o U' L ({ frames := 1, cells := 3, slots := 24, locals := 12 } : Room).cells ({ frames := 1, cells := 3, slots := 24, locals := 12 } : Room).slots) := by
  refine MetFree.of_bodySF (plainFor_of_name pn_com_example_holdback_holdback_sim_EventQueue_Stream) hisR ?_
  intro p e s m args below meth c s₁ Bd hml0 hP hK
  obtain ⟨rfl, hZ, hh⟩ := hP
  have hx := Bd.exec
  have hby := Bd.bytes
  have hml : c.maxLocals = 1 := hml0
  have hown : s.vm.findClass "com/example/holdback/holdback/sim/EventQueue$Stream" = some m.cls := findClass_of_methodNamed Bd.named
  have hnm := (name_of_methodNamed Bd.named Bd.method).1
  have X0 : Stand p l e ({ frames := 1, cells := 3, slots := 24, locals := 12 } : Room) s m #[(.ref a1)] below meth c s₁ [] 0 0 := Stand.of_body Bd
  have e0 : s₁.heap = h0 := by rw [← hh, Bd.state]; rfl
  have N0 := Fr.nil n0
  have pre0 : ∀ t, Steps p.tables e below (s₁.setTop (mkF m 0 #[.val (.ref a1)] [])) t → Steps p.tables e below (s₁.setTop (entryFrame m #[(.ref a1)] 1)) t := fun t k => castTop (ef_rmSI m a1) k
  have w_38 := hw _ (List.mem_of_getElem? (i := 38) rfl)
  have w_45 := hw _ (List.mem_of_getElem? (i := 45) rfl)
  have w_47 := hw _ (List.mem_of_getElem? (i := 47) rfl)
  have w_51 := hw _ (List.mem_of_getElem? (i := 51) rfl)
  have w_85 := hw _ (List.mem_of_getElem? (i := 85) rfl)
  have w_94 := hw _ (List.mem_of_getElem? (i := 94) rfl)
  have w_96 := hw _ (List.mem_of_getElem? (i := 96) rfl)
  have oz := OLD.1
  have lt_a1 : a1 < h0.size := P1.lt
  refine own_go (B := s₁.setTop (mkF m 0 #[.val (.ref a1)] [])) pre0 ?_
  show ∃ t o, Steps p.tables e below (s₁.setTop (mkF m 0 #[.val (.ref a1)] [])) t ∧ _
  refine own_go (fun _ => XS.aloadN X0.here hx rfl (hb hby d7_0) rfl rfl) ?_
  show ∃ t o, Steps p.tables e below (s₁.setTop (mkF m 1 #[.val (.ref a1)] [(.ref a1)])) t ∧ _
  obtain ⟨T8, X8, e8, st8⟩ := initO X0 hx hZ hown (hw _ (List.mem_of_getElem? (i := 43) rfl)) (hw _ (List.mem_of_getElem? (i := 11) rfl)) (hw _ (List.mem_of_getElem? (i := 12) rfl)) e0 (g := (mkF m 1 #[.val (.ref a1)] [(.ref a1)])) rfl (by rw [hml]; rfl) rfl (hb hby d7_1) (by decide) (W := 0) (by show 2 * 0 + _ ≤ _; exact Nat.le_of_eq rfl) (by decide)
  refine own_go st8 ?_
  refine own_go (fun _ => XS.aloadN X8.here hx rfl (hb hby d7_4) rfl rfl) ?_
  refine own_go (fun _ => XS.bipush X8.here hx rfl (hb hby d7_5)) ?_
  show ∃ t o, Steps p.tables e below (T8.setTop (mkF m 7 #[.val (.ref a1)] [(.int (8 : Int32)), (.ref a1)])) t ∧ _
  obtain ⟨T9, h9, k9, X9, e9, E9, A9, st9⟩ := newP (aty := .double) X8 hx hZ (hw _ (List.mem_of_getElem? (i := 29) rfl)) e8 (g := (mkF m 7 #[.val (.ref a1)] [(.int (8 : Int32)), (.ref a1)])) rfl (hb hby d7_7) rfl (by decide) (cap := 8) (by decide) (by decide) (by decide) (by decide)
  obtain ⟨b9, g9⟩ : ∃ z, z = h0.size := ⟨_, rfl⟩
  rw [← g9] at A9 st9
  refine own_go st9 ?_
  have le_9 : h0.size ≤ h9.size := E9.1
  have lt_b9 : b9 < h9.size := A9.lt
  have V_b9 : Arv Z h9 b9 k9 .double (8 : Int32) [(.double (0 : UInt64)), (.double (0 : UInt64)), (.double (0 : UInt64)), (.double (0 : UInt64)), (.double (0 : UInt64)), (.double (0 : UInt64)), (.double (0 : UInt64)), (.double (0 : UInt64))] (.double (0 : UInt64)) := (Arv.new A9 (by decide)).pad (pad_rep [] (.double (0 : UInt64)) 8)
  have K9 : Keep h0 h9 [a1] := Keep.ext (Keep.refl h0 [a1]) E9
  have F10 := (Exa.ext E9 P1)
  have F11 := (Fld.ext E9 P2)
  obtain ⟨T12, h12, X12, e12, W12, st12⟩ := putF X9 hx hZ hown (host := "") (Or.inl (hw _ (List.mem_of_getElem? (i := 44) rfl))) Via.refl e9 F11 F10 (Or.inl w_45) w_38 (ty := (.array .double)) (by decide) rfl rfl (g := (mkF m 9 #[.val (.ref a1)] [(.ref b9), (.ref a1)])) rfl rfl (hb hby d7_9)
  refine own_go st12 ?_
  have le_12 : h9.size ≤ h12.size := Nat.le_of_eq W12.size.symm
  have K12 : Keep h0 h12 [a1] := Keep.wr K9 W12 (Or.inl (List.mem_of_getElem? (i := 0) rfl))
  have N12 := Fr.snoc X12 N0 ga
  have Fw12 := Fld.same W12 F11
  refine own_go (fun _ => XS.aloadN X12.here hx rfl (hb hby d7_12) rfl rfl) ?_
  refine own_go (fun _ => XS.bipush X12.here hx rfl (hb hby d7_13)) ?_
  show ∃ t o, Steps p.tables e below (T12.setTop (mkF m 15 #[.val (.ref a1)] [(.int (8 : Int32)), (.ref a1)])) t ∧ _
  obtain ⟨T13, h13, k13, X13, e13, E13, A13, st13⟩ := newP (aty := .long) X12 hx hZ (hw _ (List.mem_of_getElem? (i := 32) rfl)) e12 (g := (mkF m 15 #[.val (.ref a1)] [(.int (8 : Int32)), (.ref a1)])) rfl (hb hby d7_15) rfl (by decide) (cap := 8) (by decide) (by decide) (by decide) (by decide)
  obtain ⟨b13, g13⟩ : ∃ z, z = h12.size := ⟨_, rfl⟩
  rw [← g13] at A13 st13
  refine own_go st13 ?_
  have le_13 : h12.size ≤ h13.size := E13.1
  have lt_b13 : b13 < h13.size := A13.lt
  have V_b13 : Arv Z h13 b13 k13 .long (8 : Int32) [(.long (0 : Int64)), (.long (0 : Int64)), (.long (0 : Int64)), (.long (0 : Int64)), (.long (0 : Int64)), (.long (0 : Int64)), (.long (0 : Int64)), (.long (0 : Int64))] (.long (0 : Int64)) := (Arv.new A13 (by decide)).pad (pad_rep [] (.long (0 : Int64)) 8)
  have K13 : Keep h0 h13 [a1] := Keep.ext K12 E13
  have F14 := (Exa.ext E13 (Exa.wr W12 F10))
  have F15 := (Fld.ext E13 (Fld.other W12 (Fld.ext E9 P3) (Or.inr (slot_ne (a0 := a0) (Or.inl w_47) (Or.inl w_45) (by decide) (t := (.array .long)) (t' := (.array .double)) (by decide) (by decide)))))
  obtain ⟨T16, h16, X16, e16, W16, st16⟩ := putF X13 hx hZ hown (host := "") (Or.inl (hw _ (List.mem_of_getElem? (i := 46) rfl))) Via.refl e13 F15 F14 (Or.inl w_47) w_38 (ty := (.array .long)) (by decide) rfl rfl (g := (mkF m 17 #[.val (.ref a1)] [(.ref b13), (.ref a1)])) rfl rfl (hb hby d7_17)
  refine own_go st16 ?_
  have le_16 : h13.size ≤ h16.size := Nat.le_of_eq W16.size.symm
  have K16 : Keep h0 h16 [a1] := Keep.wr K13 W16 (Or.inl (List.mem_of_getElem? (i := 0) rfl))
  have N16 := Fr.snoc X16 N12 ga
  have Fw16 := Fld.same W16 F15
  refine own_go (fun _ => XS.aloadN X16.here hx rfl (hb hby d7_20) rfl rfl) ?_
  refine own_go (fun _ => XS.bipush X16.here hx rfl (hb hby d7_21)) ?_
  show ∃ t o, Steps p.tables e below (T16.setTop (mkF m 23 #[.val (.ref a1)] [(.int (8 : Int32)), (.ref a1)])) t ∧ _
  obtain ⟨T17, h17, k17, X17, e17, E17, A17, Q17, O17, st17⟩ := newRE X16 hx hZ hown (hw _ (List.mem_of_getElem? (i := 48) rfl)) (hw _ (List.mem_of_getElem? (i := 49) rfl)) e16 (g := (mkF m 23 #[.val (.ref a1)] [(.int (8 : Int32)), (.ref a1)])) rfl (hb hby d7_23) rfl (by decide) (cap := 8) (by decide) (by decide) (by decide) (by decide) (ad := "[Ljava/lang/Runnable;") rfl
  obtain ⟨b17, g17⟩ : ∃ z, z = h16.size := ⟨_, rfl⟩
  rw [← g17] at A17 Q17 st17
  refine own_go st17 ?_
  have le_17 : h16.size ≤ h17.size := E17.1
  have lt_b17 : b17 < h17.size := A17.lt
  have V_b17 : Arv Z h17 b17 k17 (.object "java/lang/Runnable") (8 : Int32) [.null, .null, .null, .null, .null, .null, .null, .null] .null := (Arv.new A17 (by decide)).pad (pad_rep [] .null 8)
  have K17 : Keep h0 h17 [a1] := Keep.ext K16 E17
  have F18 := (Exa.ext E17 (Exa.wr W16 F14))
  have F19 := (Fld.ext E17 (Fld.other W16 (Fld.ext E13 (Fld.other W12 (Fld.ext E9 P4) (Or.inr (slot_ne (a0 := a0) (Or.inl w_51) (Or.inl w_45) (by decide) (t := (.array (.object "java/lang/Runnable"))) (t' := (.array .double)) (by decide) (by decide))))) (Or.inr (slot_ne (a0 := a0) (Or.inl w_51) (Or.inl w_47) (by decide) (t := (.array (.object "java/lang/Runnable"))) (t' := (.array .long)) (by decide) (by decide)))))
  obtain ⟨T20, h20, X20, e20, W20, st20⟩ := putF X17 hx hZ hown (host := "") (Or.inl (hw _ (List.mem_of_getElem? (i := 50) rfl))) Via.refl e17 F19 F18 (Or.inl w_51) w_38 (ty := (.array (.object "java/lang/Runnable"))) (by decide) rfl rfl (g := (mkF m 26 #[.val (.ref a1)] [(.ref b17), (.ref a1)])) rfl rfl (hb hby d7_26)
  refine own_go st20 ?_
  have le_20 : h17.size ≤ h20.size := Nat.le_of_eq W20.size.symm
  have K20 : Keep h0 h20 [a1] := Keep.wr K17 W20 (Or.inl (List.mem_of_getElem? (i := 0) rfl))
  have N20 := Fr.snoc X20 N16 ga
  have Fw20 := Fld.same W20 F19
  show ∃ t o, Steps p.tables e below (T20.setTop (mkF m 29 #[.val (.ref a1)] [])) t ∧ _
  have F21 := (Fld.other W20 (Fld.ext E17 (Fld.other W16 (Fld.ext E13 Fw12) (Or.inr (slot_ne (a0 := a0) (Or.inl w_45) (Or.inl w_47) (by decide) (t := (.array .double)) (t' := (.array .long)) (by decide) (by decide))))) (Or.inr (slot_ne (a0 := a0) (Or.inl w_45) (Or.inl w_51) (by decide) (t := (.array .double)) (t' := (.array (.object "java/lang/Runnable"))) (by decide) (by decide))))
  have F22 := (Fld.other W20 (Fld.ext E17 Fw16) (Or.inr (slot_ne (a0 := a0) (Or.inl w_47) (Or.inl w_51) (by decide) (t := (.array .long)) (t' := (.array (.object "java/lang/Runnable"))) (by decide) (by decide))))
  have F23 := (Fld.other W20 (Fld.ext E17 (Fld.other W16 (Fld.ext E13 (Fld.other W12 (Fld.ext E9 P5) (Or.inr (slot_ne (a0 := a0) (Or.inl w_96) (Or.inl w_45) (by decide) (t := .int) (t' := (.array .double)) (by decide) (by decide))))) (Or.inr (slot_ne (a0 := a0) (Or.inl w_96) (Or.inl w_47) (by decide) (t := .int) (t' := (.array .long)) (by decide) (by decide))))) (Or.inr (slot_ne (a0 := a0) (Or.inl w_96) (Or.inl w_51) (by decide) (t := .int) (t' := (.array (.object "java/lang/Runnable"))) (by decide) (by decide))))
  have F24 := (Fld.other W20 (Fld.ext E17 (Fld.other W16 (Fld.ext E13 (Fld.other W12 (Fld.ext E9 P6) (Or.inr (slot_ne (a0 := a0) (Or.inl w_94) (Or.inl w_45) (by decide) (t := .int) (t' := (.array .double)) (by decide) (by decide))))) (Or.inr (slot_ne (a0 := a0) (Or.inl w_94) (Or.inl w_47) (by decide) (t := .int) (t' := (.array .long)) (by decide) (by decide))))) (Or.inr (slot_ne (a0 := a0) (Or.inl w_94) (Or.inl w_51) (by decide) (t := .int) (t' := (.array (.object "java/lang/Runnable"))) (by decide) (by decide))))
  have F25 := (Fld.other W20 (Fld.ext E17 (Fld.other W16 (Fld.ext E13 (Fld.other W12 (Fld.ext E9 P7) (Or.inr (slot_ne (a0 := a0) (Or.inl w_85) (Or.inl w_45) (by decide) (t := .double) (t' := (.array .double)) (by decide) (by decide))))) (Or.inr (slot_ne (a0 := a0) (Or.inl w_85) (Or.inl w_47) (by decide) (t := .double) (t' := (.array .long)) (by decide) (by decide))))) (Or.inr (slot_ne (a0 := a0) (Or.inl w_85) (Or.inl w_51) (by decide) (t := .double) (t' := (.array (.object "java/lang/Runnable"))) (by decide) (by decide))))
  have ne26 : b9 ≠ a1 := own_ne (by omega)
  have F27 := (Arv.other ((Arv.other ((Arv.other V_b9 W12 ne26).ext E13) W16 ne26).ext E17) W20 ne26)
  have ne28 : b13 ≠ a1 := own_ne (by omega)
  have F29 := (Arv.other ((Arv.other V_b13 W16 ne28).ext E17) W20 ne28)
  have ne30 : b17 ≠ a1 := own_ne (by omega)
  have F31 := (Arv.other V_b17 W20 ne30)
  obtain ⟨fs, hr, hrun, hended, hW, hsame⟩ := X20.leave (v := none) (fun _ => rfl)
  refine ⟨_, _, ?_, hrun, hended, _, _, rfl, ?_, ⟨_, rfl⟩, hW, hsame.mono (by decide) (by decide)⟩
  · exact X20.returnOut hx Bd.returns (hb hby d7_29) hr
  · show Q_rmSI Z _ h0 n0 _ T20.heap _
    rw [e20]
    exact ⟨b9, b13, b17, k9, k13, k17, rfl, N20, K20, F21, F22, Fw20, F23, F24, F25, F27, F29, F31, (by omega), (by omega), (by omega)⟩
theorem ef_rmSA (m : MethodId) (x0 : Nat) (x1 : UInt64) (x2 : Int64) : entryFrame m #[(.ref x0), (.double x1), (.long x2), .null] 7 = mkF m 0 #[.val (.ref x0), .val (.double x1), .second, .val (.long x2), .second, .val .null, .unset] [] := by first | (simp [entryFrame, mkF, argsToLocals, Value.category]; done) | rfl
theorem d14_0 : decode prog_165_method_2_code 0 = .ok (.aload_n 0, 1) := by decide +kernel
theorem d14_1 : decode prog_165_method_2_code 1 = .ok (.getfield 23, 3) := by decide +kernel
theorem d14_4 : decode prog_165_method_2_code 4 = .ok (.aload_n 0, 1) := by decide +kernel
theorem d14_5 : decode prog_165_method_2_code 5 = .ok (.getfield 19, 3) := by decide +kernel
theorem d14_8 : decode prog_165_method_2_code 8 = .ok (.arraylength, 1) := by decide +kernel
theorem d14_9 : decode prog_165_method_2_code 9 = .ok (.if_icmp .ne 7, 3) := by decide +kernel
theorem d14_16 : decode prog_165_method_2_code 16 = .ok (.aload_n 0, 1) := by decide +kernel
theorem d14_17 : decode prog_165_method_2_code 17 = .ok (.getfield 30, 3) := by decide +kernel
theorem d14_20 : decode prog_165_method_2_code 20 = .ok (.aload_n 0, 1) := by decide +kernel
theorem d14_21 : decode prog_165_method_2_code 21 = .ok (.getfield 23, 3) := by decide +kernel
theorem d14_24 : decode prog_165_method_2_code 24 = .ok (.iadd, 1) := by decide +kernel
theorem d14_25 : decode prog_165_method_2_code 25 = .ok (.aload_n 0, 1) := by decide +kernel
theorem d14_26 : decode prog_165_method_2_code 26 = .ok (.getfield 19, 3) := by decide +kernel
theorem d14_29 : decode prog_165_method_2_code 29 = .ok (.arraylength, 1) := by decide +kernel
theorem d14_30 : decode prog_165_method_2_code 30 = .ok (.iconst 1, 1) := by decide +kernel
theorem d14_31 : decode prog_165_method_2_code 31 = .ok (.isub, 1) := by decide +kernel
theorem d14_32 : decode prog_165_method_2_code 32 = .ok (.iand, 1) := by decide +kernel
theorem d14_33 : decode prog_165_method_2_code 33 = .ok (.istore 6, 2) := by decide +kernel
theorem d14_35 : decode prog_165_method_2_code 35 = .ok (.aload_n 0, 1) := by decide +kernel
theorem d14_36 : decode prog_165_method_2_code 36 = .ok (.getfield 7, 3) := by decide +kernel
theorem d14_39 : decode prog_165_method_2_code 39 = .ok (.iload 6, 2) := by decide +kernel
theorem d14_41 : decode prog_165_method_2_code 41 = .ok (.dload_n 1, 1) := by decide +kernel
theorem d14_42 : decode prog_165_method_2_code 42 = .ok (.dastore, 1) := by decide +kernel
theorem d14_43 : decode prog_165_method_2_code 43 = .ok (.aload_n 0, 1) := by decide +kernel
theorem d14_44 : decode prog_165_method_2_code 44 = .ok (.getfield 13, 3) := by decide +kernel
theorem d14_47 : decode prog_165_method_2_code 47 = .ok (.iload 6, 2) := by decide +kernel
theorem d14_49 : decode prog_165_method_2_code 49 = .ok (.lload_n 3, 1) := by decide +kernel
theorem d14_50 : decode prog_165_method_2_code 50 = .ok (.lastore, 1) := by decide +kernel
theorem d14_51 : decode prog_165_method_2_code 51 = .ok (.aload_n 0, 1) := by decide +kernel
theorem d14_52 : decode prog_165_method_2_code 52 = .ok (.getfield 19, 3) := by decide +kernel
theorem d14_55 : decode prog_165_method_2_code 55 = .ok (.iload 6, 2) := by decide +kernel
theorem d14_57 : decode prog_165_method_2_code 57 = .ok (.aload 5, 2) := by decide +kernel
theorem d14_59 : decode prog_165_method_2_code 59 = .ok (.aastore, 1) := by decide +kernel
theorem d14_60 : decode prog_165_method_2_code 60 = .ok (.aload_n 0, 1) := by decide +kernel
theorem d14_61 : decode prog_165_method_2_code 61 = .ok (.dup, 1) := by decide +kernel
theorem d14_62 : decode prog_165_method_2_code 62 = .ok (.getfield 23, 3) := by decide +kernel
theorem d14_65 : decode prog_165_method_2_code 65 = .ok (.iconst 1, 1) := by decide +kernel
theorem d14_66 : decode prog_165_method_2_code 66 = .ok (.iadd, 1) := by decide +kernel
theorem d14_67 : decode prog_165_method_2_code 67 = .ok (.putfield 23, 3) := by decide +kernel
theorem d14_70 : decode prog_165_method_2_code 70 = .ok (.aload_n 0, 1) := by decide +kernel
theorem d14_71 : decode prog_165_method_2_code 71 = .ok (.dload_n 1, 1) := by decide +kernel
theorem d14_72 : decode prog_165_method_2_code 72 = .ok (.putfield 33, 3) := by decide +kernel
theorem d14_75 : decode prog_165_method_2_code 75 = .ok (.return_, 1) := by decide +kernel
def Q_rmSA (Z : State) (a1 : Nat) (am : Nat) (ap : Nat) (ac : Nat) (km : ClassId) (kp : ClassId) (kc : ClassId) (lm : List Value) (lp : List Value) (lc : List Value) (f1 : Int32) (z1 : Int32) (la : UInt64) (A1 : UInt64) (pl : Int64) (h0 : Heap) (n0 : Nat) (v : Option Value) (h : Heap) (L : List Loc) : Prop := v = none ∧ Fr n0 L ∧ Keep h0 h [a1, am, ap, ac] ∧ Exa Z h a1 "com/example/holdback/holdback/sim/EventQueue$Stream" ∧ Fld Z h a1 "com/example/holdback/holdback/sim/EventQueue$Stream" "moments" "[D" (.ref am) ∧ Fld Z h a1 "com/example/holdback/holdback/sim/EventQueue$Stream" "places" "[J" (.ref ap) ∧ Fld Z h a1 "com/example/holdback/holdback/sim/EventQueue$Stream" "actions" "[Ljava/lang/Runnable;" (.ref ac) ∧ Fld Z h a1 "com/example/holdback/holdback/sim/EventQueue$Stream" "first" "I" (.int f1) ∧ Fld Z h a1 "com/example/holdback/holdback/sim/EventQueue$Stream" "size" "I" (.int (z1 + (1 : Int32))) ∧ Fld Z h a1 "com/example/holdback/holdback/sim/EventQueue$Stream" "lastAt" "D" (.double A1) ∧ Arv Z h am km .double (8 : Int32) (lm.set (((f1 + z1) &&& (7 : Int32))).toNatClampNeg (.double A1)) (.double (0 : UInt64)) ∧ Arv Z h ap kp .long (8 : Int32) (lp.set (((f1 + z1) &&& (7 : Int32))).toNatClampNeg (.long pl)) (.long (0 : Int64)) ∧ Arv Z h ac kc (.object "java/lang/Runnable") (8 : Int32) (lc.set (((f1 + z1) &&& (7 : Int32))).toNatClampNeg .null) .null ∧ (own_G own_pd (.double (0 : UInt64)) (8 : Int32) (lm.set (((f1 + z1) &&& (7 : Int32))).toNatClampNeg (.double A1))) ∧ (own_G own_pj (.long (0 : Int64)) (8 : Int32) (lp.set (((f1 + z1) &&& (7 : Int32))).toNatClampNeg (.long pl))) ∧ (own_G own_pn .null (8 : Int32) (lc.set (((f1 + z1) &&& (7 : Int32))).toNatClampNeg .null))
set_option maxRecDepth 65536 in
set_option maxHeartbeats 40000000 in
theorem rmSA (l : Launch) (Z : State) (a0 : Array Value) (hw : ∀ d ∈ tables_1, d.before a0 Z = true) (ws : List Jvm.Cond) (a1 : Nat) (am : Nat) (ap : Nat) (ac : Nat) (km : ClassId) (kp : ClassId) (kc : ClassId) (lm : List Value) (lp : List Value) (lc : List Value) (f1 : Int32) (z1 : Int32) (la : UInt64) (A1 : UInt64) (pl : Int64) (h0 : Heap) (n0 : Nat) (Z0 : n0 ≤ h0.size) (P1 : Exa Z h0 a1 "com/example/holdback/holdback/sim/EventQueue$Stream") (P2 : Fld Z h0 a1 "com/example/holdback/holdback/sim/EventQueue$Stream" "moments" "[D" (.ref am)) (P3 : Fld Z h0 a1 "com/example/holdback/holdback/sim/EventQueue$Stream" "places" "[J" (.ref ap)) (P4 : Fld Z h0 a1 "com/example/holdback/holdback/sim/EventQueue$Stream" "actions" "[Ljava/lang/Runnable;" (.ref ac)) (P5 : Fld Z h0 a1 "com/example/holdback/holdback/sim/EventQueue$Stream" "first" "I" (.int f1)) (P6 : Fld Z h0 a1 "com/example/holdback/holdback/sim/EventQueue$Stream" "size" "I" (.int z1)) (P7 : Fld Z h0 a1 "com/example/holdback/holdback/sim/EventQueue$Stream" "lastAt" "D" (.double la)) (P8 : Arv Z h0 am km .double (8 : Int32) lm (.double (0 : UInt64))) (P9 : Arv Z h0 ap kp .long (8 : Int32) lp (.long (0 : Int64))) (P10 : Arv Z h0 ac kc (.object "java/lang/Runnable") (8 : Int32) lc .null) (OLD : Old Z n0 h0) (o1 : a1 < am) (o2 : am < ap) (o3 : ap < ac) (ga : n0 ≤ a1) (GM : own_G own_pd (.double (0 : UInt64)) (8 : Int32) lm) (GP : own_G own_pj (.long (0 : Int64)) (8 : Int32) lp) (GC : own_G own_pn .null (8 : Int32) lc) (nA : Jvm.Free.Fl.NoNaN64 A1) (hz : ¬ (z1 = (8 : Int32))) :
    MetFree l (⟨"com/example/holdback/holdback/sim/EventQueue$Stream", "add", "(DJLjava/lang/Runnable;)V"⟩ : MethodName) (head1 (Jvm.Cond.code (⟨"com/example/holdback/holdback/sim/EventQueue$Stream", "add", "(DJLjava/lang/Runnable;)V"⟩ : MethodName) prog_165_method_2_code 7 none :: ws) ({ frames := 0, cells := 0, slots := 0, locals := 0 } : Room)) (fun a U => a = #[(.ref a1), (.double A1), (.long pl), .null] ∧ Z.Warmed39 U.vm ∧ U.heap = h0) (fun _ _ _ _ _ => True) (fun _ U o U' => ∃ v L, o = .returned v ∧ Q_rmSA Z a1 am ap ac km kp kc lm lp lc f1 z1 la A1 pl h0 n0 v U'.heap L ∧ FrameEnd U o U' L ({ frames := 0, cells := 0, slots := 0, locals := 0 } : Room).cells ({ frames := 0, cells := 0, slots := 0, locals := 0 } : Room).slots) := by
  refine MetFree.of_bodySF (plainFor_of_name pn_com_example_holdback_holdback_sim_EventQueue_Stream) hisR ?_
  intro p e s m args below meth c s₁ Bd hml0 hP hK
  obtain ⟨rfl, hZ, hh⟩ := hP
  have hx := Bd.exec
  have hby := Bd.bytes
  have hml : c.maxLocals = 7 := hml0
  have hown : s.vm.findClass "com/example/holdback/holdback/sim/EventQueue$Stream" = some m.cls := findClass_of_methodNamed Bd.named
  have hnm := (name_of_methodNamed Bd.named Bd.method).1
  have X0 : Stand p l e ({ frames := 0, cells := 0, slots := 0, locals := 0 } : Room) s m #[(.ref a1), (.double A1), (.long pl), .null] below meth c s₁ [] 0 0 := Stand.of_body Bd
  have e0 : s₁.heap = h0 := by rw [← hh, Bd.state]; rfl
  have N0 := Fr.nil n0
  have pre0 : ∀ t, Steps p.tables e below (s₁.setTop (mkF m 0 #[.val (.ref a1), .val (.double A1), .second, .val (.long pl), .second, .val .null, .unset] [])) t → Steps p.tables e below (s₁.setTop (entryFrame m #[(.ref a1), (.double A1), (.long pl), .null] 7)) t := fun t k => castTop (ef_rmSA m a1 A1 pl) k
  have w_38 := hw _ (List.mem_of_getElem? (i := 38) rfl)
  have w_45 := hw _ (List.mem_of_getElem? (i := 45) rfl)
  have w_47 := hw _ (List.mem_of_getElem? (i := 47) rfl)
  have w_50 := hw _ (List.mem_of_getElem? (i := 50) rfl)
  have w_51 := hw _ (List.mem_of_getElem? (i := 51) rfl)
  have w_85 := hw _ (List.mem_of_getElem? (i := 85) rfl)
  have w_93 := hw _ (List.mem_of_getElem? (i := 93) rfl)
  have w_94 := hw _ (List.mem_of_getElem? (i := 94) rfl)
  have w_96 := hw _ (List.mem_of_getElem? (i := 96) rfl)
  have oz := OLD.1
  have lt_a1 : a1 < h0.size := P1.lt
  have lt_ac : ac < h0.size := P10.lt
  have lt_am : am < h0.size := P8.lt
  have lt_ap : ap < h0.size := P9.lt
  refine own_go (B := s₁.setTop (mkF m 0 #[.val (.ref a1), .val (.double A1), .second, .val (.long pl), .second, .val .null, .unset] [])) pre0 ?_
  show ∃ t o, Steps p.tables e below (s₁.setTop (mkF m 0 #[.val (.ref a1), .val (.double A1), .second, .val (.long pl), .second, .val .null, .unset] [])) t ∧ _
  refine own_go (fun _ => XS.aloadN X0.here hx rfl (hb hby d14_0) rfl rfl) ?_
  obtain ⟨T11, X11, e11, st11⟩ := getF X0 hx hZ hown (host := "") (Or.inl w_93) Via.refl e0 P6 (g := (mkF m 1 #[.val (.ref a1), .val (.double A1), .second, .val (.long pl), .second, .val .null, .unset] [(.ref a1)])) rfl rfl (hb hby d14_1)
  refine own_go st11 ?_
  refine own_go (fun _ => XS.aloadN X11.here hx rfl (hb hby d14_4) rfl rfl) ?_
  obtain ⟨T12, X12, e12, st12⟩ := getF X11 hx hZ hown (host := "") (Or.inl w_50) Via.refl e11 P4 (g := (mkF m 5 #[.val (.ref a1), .val (.double A1), .second, .val (.long pl), .second, .val .null, .unset] [(.ref a1), (.int z1)])) rfl rfl (hb hby d14_5)
  refine own_go st12 ?_
  obtain ⟨cl13, Ar13, q13, S13, N13, H13, G13⟩ := id P10
  have ln13 : cl13.slots.size.toInt32 = (8 : Int32) := len_of S13 N13
  have al13 := X12.arraylength hx (by rw [e12]; exact Ar13.1) (State.isArrayOf_alike hZ.alike Ar13.2.1) (g := (mkF m 8 #[.val (.ref a1), .val (.double A1), .second, .val (.long pl), .second, .val .null, .unset] [(.ref ac), (.int z1)])) rfl rfl (hb hby d14_8)
  rw [ln13] at al13
  refine own_go al13 ?_
  show ∃ t o, Steps p.tables e below (T12.setTop (mkF m 9 #[.val (.ref a1), .val (.double A1), .second, .val (.long pl), .second, .val .null, .unset] [(.int (8 : Int32)), (.int z1)])) t ∧ _
  refine own_go (fun _ => XS.icmpYes X12.here hx rfl (pc0 := 9) (pc' := 16) rfl (hb hby d14_9) rfl (feq hz).2 (by decide) (by decide)) ?_
  refine own_go (fun _ => XS.aloadN X12.here hx rfl (hb hby d14_16) rfl rfl) ?_
  obtain ⟨T14, X14, e14, st14⟩ := getF X12 hx hZ hown (host := "") (Or.inl (hw _ (List.mem_of_getElem? (i := 95) rfl))) Via.refl e12 P5 (g := (mkF m 17 #[.val (.ref a1), .val (.double A1), .second, .val (.long pl), .second, .val .null, .unset] [(.ref a1)])) rfl rfl (hb hby d14_17)
  refine own_go st14 ?_
  refine own_go (fun _ => XS.aloadN X14.here hx rfl (hb hby d14_20) rfl rfl) ?_
  obtain ⟨T15, X15, e15, st15⟩ := getF X14 hx hZ hown (host := "") (Or.inl w_93) Via.refl e14 P6 (g := (mkF m 21 #[.val (.ref a1), .val (.double A1), .second, .val (.long pl), .second, .val .null, .unset] [(.ref a1), (.int f1)])) rfl rfl (hb hby d14_21)
  refine own_go st15 ?_
  refine own_go (fun _ => XS.iadd X15.here hx rfl (hb hby d14_24) rfl) ?_
  refine own_go (fun _ => XS.aloadN X15.here hx rfl (hb hby d14_25) rfl rfl) ?_
  obtain ⟨T16, X16, e16, st16⟩ := getF X15 hx hZ hown (host := "") (Or.inl w_50) Via.refl e15 P4 (g := (mkF m 26 #[.val (.ref a1), .val (.double A1), .second, .val (.long pl), .second, .val .null, .unset] [(.ref a1), (.int (f1 + z1))])) rfl rfl (hb hby d14_26)
  refine own_go st16 ?_
  show ∃ t o, Steps p.tables e below (T16.setTop (mkF m 29 #[.val (.ref a1), .val (.double A1), .second, .val (.long pl), .second, .val .null, .unset] [(.ref ac), (.int (f1 + z1))])) t ∧ _
  obtain ⟨cl17, Ar17, q17, S17, N17, H17, G17⟩ := id P10
  have ln17 : cl17.slots.size.toInt32 = (8 : Int32) := len_of S17 N17
  have al17 := X16.arraylength hx (by rw [e16]; exact Ar17.1) (State.isArrayOf_alike hZ.alike Ar17.2.1) (g := (mkF m 29 #[.val (.ref a1), .val (.double A1), .second, .val (.long pl), .second, .val .null, .unset] [(.ref ac), (.int (f1 + z1))])) rfl rfl (hb hby d14_29)
  rw [ln17] at al17
  refine own_go al17 ?_
  refine own_go (fun _ => XS.iconst X16.here hx rfl (hb hby d14_30)) ?_
  refine own_go (fun _ => XS.isub X16.here hx rfl (hb hby d14_31) rfl) ?_
  refine own_go (fun _ => XS.iand X16.here hx rfl (hb hby d14_32) rfl) ?_
  refine own_go (fun _ => XS.istore X16.here hx rfl (hb hby d14_33) rfl (l' := #[.val (.ref a1), .val (.double A1), .second, .val (.long pl), .second, .val .null, .val (.int ((f1 + z1) &&& (7 : Int32)))]) rfl) ?_
  refine own_go (fun _ => XS.aloadN X16.here hx rfl (hb hby d14_35) rfl rfl) ?_
  obtain ⟨T18, X18, e18, st18⟩ := getF X16 hx hZ hown (host := "") (Or.inl (hw _ (List.mem_of_getElem? (i := 44) rfl))) Via.refl e16 P2 (g := (mkF m 36 #[.val (.ref a1), .val (.double A1), .second, .val (.long pl), .second, .val .null, .val (.int ((f1 + z1) &&& (7 : Int32)))] [(.ref a1)])) rfl rfl (hb hby d14_36)
  refine own_go st18 ?_
  refine own_go (fun _ => XS.iload X18.here hx rfl (hb hby d14_39) rfl) ?_
  show ∃ t o, Steps p.tables e below (T18.setTop (mkF m 41 #[.val (.ref a1), .val (.double A1), .second, .val (.long pl), .second, .val .null, .val (.int ((f1 + z1) &&& (7 : Int32)))] [(.int ((f1 + z1) &&& (7 : Int32))), (.ref am)])) t ∧ _
  refine own_go (fun _ => XS.dloadN X18.here hx rfl (hb hby d14_41) rfl) ?_
  obtain ⟨cl19, Ar19, q19, S19, N19, H19, G19⟩ := id P8
  have ib20 : ¬ ((f1 + z1) &&& (7 : Int32)) < 0 ∧ ((f1 + z1) &&& (7 : Int32)) < (8 : Int32) := own_a7 _
  have Gs21 : own_G own_pd (.double (0 : UInt64)) (8 : Int32) (lm.set (((f1 + z1) &&& (7 : Int32))).toNatClampNeg (.double A1)) := own_G.set GM _ ⟨_, rfl, nA⟩
  have hin19 : ¬ (((f1 + z1) &&& (7 : Int32)) < 0 ∨ cl19.slots.size ≤ (((f1 + z1) &&& (7 : Int32))).toNatClampNeg) := inb_of S19 ib20
  obtain ⟨T22, h22, X22, e22, W22, st22⟩ := stD X18 hx hZ e18 Ar19 (j := ((f1 + z1) &&& (7 : Int32))) hin19 (g := (mkF m 42 #[.val (.ref a1), .val (.double A1), .second, .val (.long pl), .second, .val .null, .val (.int ((f1 + z1) &&& (7 : Int32)))] [(.double A1), (.int ((f1 + z1) &&& (7 : Int32))), (.ref am)])) rfl rfl (hb hby d14_42)
  refine own_go st22 ?_
  have ge23 : n0 ≤ am := by omega
  have le_22 : h0.size ≤ h22.size := Nat.le_of_eq W22.size.symm
  have K22 : Keep h0 h22 [a1, am, ap, ac] := Keep.wr (Keep.refl h0 [a1, am, ap, ac]) W22 (Or.inl (List.mem_of_getElem? (i := 1) rfl))
  have N22 := Fr.snoc X22 N0 ge23
  have V22 : Arv Z h22 am km .double (8 : Int32) (lm.set (((f1 + z1) &&& (7 : Int32))).toNatClampNeg (.double A1)) (.double (0 : UInt64)) := Arv.set Ar19 q19 S19 N19 H19 G19 rfl W22 (((f1 + z1) &&& (7 : Int32))).toNatClampNeg rfl (GM.len ib20)
  refine own_go (fun _ => XS.aloadN X22.here hx rfl (hb hby d14_43) rfl rfl) ?_
  have ne24 : a1 ≠ am := own_ne (by omega)
  have F25 := (Fld.other W22 P3 (Or.inl ne24))
  obtain ⟨T26, X26, e26, st26⟩ := getF X22 hx hZ hown (host := "") (Or.inl (hw _ (List.mem_of_getElem? (i := 46) rfl))) Via.refl e22 F25 (g := (mkF m 44 #[.val (.ref a1), .val (.double A1), .second, .val (.long pl), .second, .val .null, .val (.int ((f1 + z1) &&& (7 : Int32)))] [(.ref a1)])) rfl rfl (hb hby d14_44)
  refine own_go st26 ?_
  refine own_go (fun _ => XS.iload X26.here hx rfl (hb hby d14_47) rfl) ?_
  refine own_go (fun _ => XS.lloadN X26.here hx rfl (hb hby d14_49) rfl) ?_
  have ne27 : ap ≠ am := own_ne (by omega)
  have F28 := (Arv.other P9 W22 ne27)
  obtain ⟨cl29, Ar29, q29, S29, N29, H29, G29⟩ := id F28
  have ib30 : ¬ ((f1 + z1) &&& (7 : Int32)) < 0 ∧ ((f1 + z1) &&& (7 : Int32)) < (8 : Int32) := own_a7 _
  have Gs31 : own_G own_pj (.long (0 : Int64)) (8 : Int32) (lp.set (((f1 + z1) &&& (7 : Int32))).toNatClampNeg (.long pl)) := own_G.set GP _ ⟨_, rfl⟩
  have hin29 : ¬ (((f1 + z1) &&& (7 : Int32)) < 0 ∨ cl29.slots.size ≤ (((f1 + z1) &&& (7 : Int32))).toNatClampNeg) := inb_of S29 ib30
  obtain ⟨T32, h32, X32, e32, W32, st32⟩ := stJ X26 hx hZ e26 Ar29 (j := ((f1 + z1) &&& (7 : Int32))) hin29 (g := (mkF m 50 #[.val (.ref a1), .val (.double A1), .second, .val (.long pl), .second, .val .null, .val (.int ((f1 + z1) &&& (7 : Int32)))] [(.long pl), (.int ((f1 + z1) &&& (7 : Int32))), (.ref ap)])) rfl rfl (hb hby d14_50)
  refine own_go st32 ?_
  have ge33 : n0 ≤ ap := by omega
  have le_32 : h22.size ≤ h32.size := Nat.le_of_eq W32.size.symm
  have K32 : Keep h0 h32 [a1, am, ap, ac] := Keep.wr K22 W32 (Or.inl (List.mem_of_getElem? (i := 2) rfl))
  have N32 := Fr.snoc X32 N22 ge33
  have V32 : Arv Z h32 ap kp .long (8 : Int32) (lp.set (((f1 + z1) &&& (7 : Int32))).toNatClampNeg (.long pl)) (.long (0 : Int64)) := Arv.set Ar29 q29 S29 N29 H29 G29 rfl W32 (((f1 + z1) &&& (7 : Int32))).toNatClampNeg rfl (GP.len ib30)
  refine own_go (fun _ => XS.aloadN X32.here hx rfl (hb hby d14_51) rfl rfl) ?_
  show ∃ t o, Steps p.tables e below (T32.setTop (mkF m 52 #[.val (.ref a1), .val (.double A1), .second, .val (.long pl), .second, .val .null, .val (.int ((f1 + z1) &&& (7 : Int32)))] [(.ref a1)])) t ∧ _
  have ne34 : a1 ≠ ap := own_ne (by omega)
  have F35 := (Fld.other W32 (Fld.other W22 P4 (Or.inl ne24)) (Or.inl ne34))
  obtain ⟨T36, X36, e36, st36⟩ := getF X32 hx hZ hown (host := "") (Or.inl w_50) Via.refl e32 F35 (g := (mkF m 52 #[.val (.ref a1), .val (.double A1), .second, .val (.long pl), .second, .val .null, .val (.int ((f1 + z1) &&& (7 : Int32)))] [(.ref a1)])) rfl rfl (hb hby d14_52)
  refine own_go st36 ?_
  refine own_go (fun _ => XS.iload X36.here hx rfl (hb hby d14_55) rfl) ?_
  refine own_go (fun _ => XS.aload X36.here hx rfl (hb hby d14_57) rfl rfl) ?_
  have ne37 : ac ≠ am := own_ne (by omega)
  have ne38 : ac ≠ ap := own_ne (by omega)
  have F39 := (Arv.other (Arv.other P10 W22 ne37) W32 ne38)
  obtain ⟨cl40, Ar40, q40, S40, N40, H40, G40⟩ := id F39
  have ib41 : ¬ ((f1 + z1) &&& (7 : Int32)) < 0 ∧ ((f1 + z1) &&& (7 : Int32)) < (8 : Int32) := own_a7 _
  have Gs42 : own_G own_pn .null (8 : Int32) (lc.set (((f1 + z1) &&& (7 : Int32))).toNatClampNeg .null) := own_G.set GC _ rfl
  have hin40 : ¬ (((f1 + z1) &&& (7 : Int32)) < 0 ∨ cl40.slots.size ≤ (((f1 + z1) &&& (7 : Int32))).toNatClampNeg) := inb_of S40 ib41
  obtain ⟨T43, h43, X43, e43, W43, st43⟩ := stR X36 hx hZ e36 Ar40 (j := ((f1 + z1) &&& (7 : Int32))) hin40 rfl (Or.inl rfl) (g := (mkF m 59 #[.val (.ref a1), .val (.double A1), .second, .val (.long pl), .second, .val .null, .val (.int ((f1 + z1) &&& (7 : Int32)))] [.null, (.int ((f1 + z1) &&& (7 : Int32))), (.ref ac)])) rfl rfl (hb hby d14_59)
  refine own_go st43 ?_
  have ge44 : n0 ≤ ac := by omega
  have le_43 : h32.size ≤ h43.size := Nat.le_of_eq W43.size.symm
  have K43 : Keep h0 h43 [a1, am, ap, ac] := Keep.wr K32 W43 (Or.inl (List.mem_of_getElem? (i := 3) rfl))
  have N43 := Fr.snoc X43 N32 ge44
  have V43 : Arv Z h43 ac kc (.object "java/lang/Runnable") (8 : Int32) (lc.set (((f1 + z1) &&& (7 : Int32))).toNatClampNeg .null) .null := Arv.set Ar40 q40 S40 N40 H40 G40 rfl W43 (((f1 + z1) &&& (7 : Int32))).toNatClampNeg rfl (GC.len ib41)
  refine own_go (fun _ => XS.aloadN X43.here hx rfl (hb hby d14_60) rfl rfl) ?_
  refine own_go (fun _ => XS.dup X43.here hx rfl (hb hby d14_61) rfl rfl) ?_
  have ne45 : a1 ≠ ac := own_ne (by omega)
  have F46 := (Fld.other W43 (Fld.other W32 (Fld.other W22 P6 (Or.inl ne24)) (Or.inl ne34)) (Or.inl ne45))
  obtain ⟨T47, X47, e47, st47⟩ := getF X43 hx hZ hown (host := "") (Or.inl w_93) Via.refl e43 F46 (g := (mkF m 62 #[.val (.ref a1), .val (.double A1), .second, .val (.long pl), .second, .val .null, .val (.int ((f1 + z1) &&& (7 : Int32)))] [(.ref a1), (.ref a1)])) rfl rfl (hb hby d14_62)
  refine own_go st47 ?_
  refine own_go (fun _ => XS.iconst X47.here hx rfl (hb hby d14_65)) ?_
  show ∃ t o, Steps p.tables e below (T47.setTop (mkF m 66 #[.val (.ref a1), .val (.double A1), .second, .val (.long pl), .second, .val .null, .val (.int ((f1 + z1) &&& (7 : Int32)))] [(.int (1 : Int32)), (.int z1), (.ref a1)])) t ∧ _
  refine own_go (fun _ => XS.iadd X47.here hx rfl (hb hby d14_66) rfl) ?_
  have F48 := (Exa.wr W43 (Exa.wr W32 (Exa.wr W22 P1)))
  obtain ⟨T49, h49, X49, e49, W49, st49⟩ := putF X47 hx hZ hown (host := "") (Or.inl w_93) Via.refl e47 F46 F48 (Or.inl w_94) w_38 (ty := .int) (by decide) rfl rfl (g := (mkF m 67 #[.val (.ref a1), .val (.double A1), .second, .val (.long pl), .second, .val .null, .val (.int ((f1 + z1) &&& (7 : Int32)))] [(.int (z1 + (1 : Int32))), (.ref a1)])) rfl rfl (hb hby d14_67)
  refine own_go st49 ?_
  have le_49 : h43.size ≤ h49.size := Nat.le_of_eq W49.size.symm
  have K49 : Keep h0 h49 [a1, am, ap, ac] := Keep.wr K43 W49 (Or.inl (List.mem_of_getElem? (i := 0) rfl))
  have N49 := Fr.snoc X49 N43 ga
  have Fw49 := Fld.same W49 F46
  refine own_go (fun _ => XS.aloadN X49.here hx rfl (hb hby d14_70) rfl rfl) ?_
  refine own_go (fun _ => XS.dloadN X49.here hx rfl (hb hby d14_71) rfl) ?_
  have F50 := (Exa.wr W49 F48)
  have F51 := (Fld.other W49 (Fld.other W43 (Fld.other W32 (Fld.other W22 P7 (Or.inl ne24)) (Or.inl ne34)) (Or.inl ne45)) (Or.inr (slot_ne (a0 := a0) (Or.inl w_85) (Or.inl w_94) (by decide) (t := .double) (t' := .int) (by decide) (by decide))))
  obtain ⟨T52, h52, X52, e52, W52, st52⟩ := putF X49 hx hZ hown (host := "") (Or.inl (hw _ (List.mem_of_getElem? (i := 97) rfl))) Via.refl e49 F51 F50 (Or.inl w_85) w_38 (ty := .double) (by decide) rfl rfl (g := (mkF m 72 #[.val (.ref a1), .val (.double A1), .second, .val (.long pl), .second, .val .null, .val (.int ((f1 + z1) &&& (7 : Int32)))] [(.double A1), (.ref a1)])) rfl rfl (hb hby d14_72)
  refine own_go st52 ?_
  have le_52 : h49.size ≤ h52.size := Nat.le_of_eq W52.size.symm
  have K52 : Keep h0 h52 [a1, am, ap, ac] := Keep.wr K49 W52 (Or.inl (List.mem_of_getElem? (i := 0) rfl))
  have N52 := Fr.snoc X52 N49 ga
  have Fw52 := Fld.same W52 F51
  show ∃ t o, Steps p.tables e below (T52.setTop (mkF m 75 #[.val (.ref a1), .val (.double A1), .second, .val (.long pl), .second, .val .null, .val (.int ((f1 + z1) &&& (7 : Int32)))] [])) t ∧ _
  have F53 := (Exa.wr W52 F50)
  have F54 := (Fld.other W52 (Fld.other W49 (Fld.other W43 (Fld.other W32 (Fld.other W22 P2 (Or.inl ne24)) (Or.inl ne34)) (Or.inl ne45)) (Or.inr (slot_ne (a0 := a0) (Or.inl w_45) (Or.inl w_94) (by decide) (t := (.array .double)) (t' := .int) (by decide) (by decide)))) (Or.inr (slot_ne (a0 := a0) (Or.inl w_45) (Or.inl w_85) (by decide) (t := (.array .double)) (t' := .double) (by decide) (by decide))))
  have F55 := (Fld.other W52 (Fld.other W49 (Fld.other W43 (Fld.other W32 F25 (Or.inl ne34)) (Or.inl ne45)) (Or.inr (slot_ne (a0 := a0) (Or.inl w_47) (Or.inl w_94) (by decide) (t := (.array .long)) (t' := .int) (by decide) (by decide)))) (Or.inr (slot_ne (a0 := a0) (Or.inl w_47) (Or.inl w_85) (by decide) (t := (.array .long)) (t' := .double) (by decide) (by decide))))
  have F56 := (Fld.other W52 (Fld.other W49 (Fld.other W43 F35 (Or.inl ne45)) (Or.inr (slot_ne (a0 := a0) (Or.inl w_51) (Or.inl w_94) (by decide) (t := (.array (.object "java/lang/Runnable"))) (t' := .int) (by decide) (by decide)))) (Or.inr (slot_ne (a0 := a0) (Or.inl w_51) (Or.inl w_85) (by decide) (t := (.array (.object "java/lang/Runnable"))) (t' := .double) (by decide) (by decide))))
  have F57 := (Fld.other W52 (Fld.other W49 (Fld.other W43 (Fld.other W32 (Fld.other W22 P5 (Or.inl ne24)) (Or.inl ne34)) (Or.inl ne45)) (Or.inr (slot_ne (a0 := a0) (Or.inl w_96) (Or.inl w_94) (by decide) (t := .int) (t' := .int) (by decide) (by decide)))) (Or.inr (slot_ne (a0 := a0) (Or.inl w_96) (Or.inl w_85) (by decide) (t := .int) (t' := .double) (by decide) (by decide))))
  have F58 := (Fld.other W52 Fw49 (Or.inr (slot_ne (a0 := a0) (Or.inl w_94) (Or.inl w_85) (by decide) (t := .int) (t' := .double) (by decide) (by decide))))
  have ne59 : am ≠ ap := own_ne (by omega)
  have ne60 : am ≠ ac := own_ne (by omega)
  have ne61 : am ≠ a1 := own_ne (by omega)
  have F62 := (Arv.other (Arv.other (Arv.other (Arv.other V22 W32 ne59) W43 ne60) W49 ne61) W52 ne61)
  have ne63 : ap ≠ ac := own_ne (by omega)
  have ne64 : ap ≠ a1 := own_ne (by omega)
  have F65 := (Arv.other (Arv.other (Arv.other V32 W43 ne63) W49 ne64) W52 ne64)
  have ne66 : ac ≠ a1 := own_ne (by omega)
  have F67 := (Arv.other (Arv.other V43 W49 ne66) W52 ne66)
  obtain ⟨fs, hr, hrun, hended, hW, hsame⟩ := X52.leave (v := none) (fun _ => rfl)
  refine ⟨_, _, ?_, hrun, hended, _, _, rfl, ?_, ⟨_, rfl⟩, hW, hsame.mono (by decide) (by decide)⟩
  · exact X52.returnOut hx Bd.returns (hb hby d14_75) hr
  · show Q_rmSA Z _ _ _ _ _ _ _ _ _ _ _ _ _ _ _ h0 n0 _ T52.heap _
    rw [e52]
    exact ⟨rfl, N52, K52, F53, F54, F55, F56, F57, F58, Fw52, F62, F65, F67, Gs21, Gs31, Gs42⟩
theorem ef_rmSR (m : MethodId) (x0 : Nat) : entryFrame m #[(.ref x0)] 3 = mkF m 0 #[.val (.ref x0), .unset, .unset] [] := by first | (simp [entryFrame, mkF, argsToLocals, Value.category]; done) | rfl
theorem d18_0 : decode prog_165_method_3_code 0 = .ok (.aload_n 0, 1) := by decide +kernel
theorem d18_1 : decode prog_165_method_3_code 1 = .ok (.getfield 30, 3) := by decide +kernel
theorem d18_4 : decode prog_165_method_3_code 4 = .ok (.istore_n 1, 1) := by decide +kernel
theorem d18_5 : decode prog_165_method_3_code 5 = .ok (.aload_n 0, 1) := by decide +kernel
theorem d18_6 : decode prog_165_method_3_code 6 = .ok (.aload_n 0, 1) := by decide +kernel
theorem d18_7 : decode prog_165_method_3_code 7 = .ok (.getfield 30, 3) := by decide +kernel
theorem d18_10 : decode prog_165_method_3_code 10 = .ok (.iconst 1, 1) := by decide +kernel
theorem d18_11 : decode prog_165_method_3_code 11 = .ok (.iadd, 1) := by decide +kernel
theorem d18_12 : decode prog_165_method_3_code 12 = .ok (.aload_n 0, 1) := by decide +kernel
theorem d18_13 : decode prog_165_method_3_code 13 = .ok (.getfield 19, 3) := by decide +kernel
theorem d18_16 : decode prog_165_method_3_code 16 = .ok (.arraylength, 1) := by decide +kernel
theorem d18_17 : decode prog_165_method_3_code 17 = .ok (.iconst 1, 1) := by decide +kernel
theorem d18_18 : decode prog_165_method_3_code 18 = .ok (.isub, 1) := by decide +kernel
theorem d18_19 : decode prog_165_method_3_code 19 = .ok (.iand, 1) := by decide +kernel
theorem d18_20 : decode prog_165_method_3_code 20 = .ok (.putfield 30, 3) := by decide +kernel
theorem d18_23 : decode prog_165_method_3_code 23 = .ok (.aload_n 0, 1) := by decide +kernel
theorem d18_24 : decode prog_165_method_3_code 24 = .ok (.dup, 1) := by decide +kernel
theorem d18_25 : decode prog_165_method_3_code 25 = .ok (.getfield 23, 3) := by decide +kernel
theorem d18_28 : decode prog_165_method_3_code 28 = .ok (.iconst 1, 1) := by decide +kernel
theorem d18_29 : decode prog_165_method_3_code 29 = .ok (.isub, 1) := by decide +kernel
theorem d18_30 : decode prog_165_method_3_code 30 = .ok (.putfield 23, 3) := by decide +kernel
theorem d18_33 : decode prog_165_method_3_code 33 = .ok (.aload_n 0, 1) := by decide +kernel
theorem d18_34 : decode prog_165_method_3_code 34 = .ok (.getfield 19, 3) := by decide +kernel
theorem d18_37 : decode prog_165_method_3_code 37 = .ok (.iload_n 1, 1) := by decide +kernel
theorem d18_38 : decode prog_165_method_3_code 38 = .ok (.aaload, 1) := by decide +kernel
theorem d18_39 : decode prog_165_method_3_code 39 = .ok (.astore_n 2, 1) := by decide +kernel
theorem d18_40 : decode prog_165_method_3_code 40 = .ok (.aload_n 0, 1) := by decide +kernel
theorem d18_41 : decode prog_165_method_3_code 41 = .ok (.getfield 19, 3) := by decide +kernel
theorem d18_44 : decode prog_165_method_3_code 44 = .ok (.iload_n 1, 1) := by decide +kernel
theorem d18_45 : decode prog_165_method_3_code 45 = .ok (.aconst_null, 1) := by decide +kernel
theorem d18_46 : decode prog_165_method_3_code 46 = .ok (.aastore, 1) := by decide +kernel
theorem d18_47 : decode prog_165_method_3_code 47 = .ok (.aload_n 2, 1) := by decide +kernel
theorem d18_48 : decode prog_165_method_3_code 48 = .ok (.areturn, 1) := by decide +kernel
def Q_rmSR (Z : State) (a1 : Nat) (am : Nat) (ap : Nat) (ac : Nat) (km : ClassId) (kp : ClassId) (kc : ClassId) (lm : List Value) (lp : List Value) (lc : List Value) (f1 : Int32) (z1 : Int32) (la : UInt64) (h0 : Heap) (n0 : Nat) (v : Option Value) (h : Heap) (L : List Loc) : Prop := v = some .null ∧ Fr n0 L ∧ Keep h0 h [a1, ac] ∧ Exa Z h a1 "com/example/holdback/holdback/sim/EventQueue$Stream" ∧ Fld Z h a1 "com/example/holdback/holdback/sim/EventQueue$Stream" "moments" "[D" (.ref am) ∧ Fld Z h a1 "com/example/holdback/holdback/sim/EventQueue$Stream" "places" "[J" (.ref ap) ∧ Fld Z h a1 "com/example/holdback/holdback/sim/EventQueue$Stream" "actions" "[Ljava/lang/Runnable;" (.ref ac) ∧ Fld Z h a1 "com/example/holdback/holdback/sim/EventQueue$Stream" "first" "I" (.int ((f1 + (1 : Int32)) &&& (7 : Int32))) ∧ Fld Z h a1 "com/example/holdback/holdback/sim/EventQueue$Stream" "size" "I" (.int (z1 - (1 : Int32))) ∧ Fld Z h a1 "com/example/holdback/holdback/sim/EventQueue$Stream" "lastAt" "D" (.double la) ∧ Arv Z h ac kc (.object "java/lang/Runnable") (8 : Int32) (lc.set (f1).toNatClampNeg .null) .null ∧ (own_G own_pn .null (8 : Int32) (lc.set (f1).toNatClampNeg .null))
set_option maxRecDepth 65536 in
set_option maxHeartbeats 40000000 in
theorem rmSR (l : Launch) (Z : State) (a0 : Array Value) (hw : ∀ d ∈ tables_1, d.before a0 Z = true) (ws : List Jvm.Cond) (a1 : Nat) (am : Nat) (ap : Nat) (ac : Nat) (km : ClassId) (kp : ClassId) (kc : ClassId) (lm : List Value) (lp : List Value) (lc : List Value) (f1 : Int32) (z1 : Int32) (la : UInt64) (h0 : Heap) (n0 : Nat) (Z0 : n0 ≤ h0.size) (P1 : Exa Z h0 a1 "com/example/holdback/holdback/sim/EventQueue$Stream") (P2 : Fld Z h0 a1 "com/example/holdback/holdback/sim/EventQueue$Stream" "moments" "[D" (.ref am)) (P3 : Fld Z h0 a1 "com/example/holdback/holdback/sim/EventQueue$Stream" "places" "[J" (.ref ap)) (P4 : Fld Z h0 a1 "com/example/holdback/holdback/sim/EventQueue$Stream" "actions" "[Ljava/lang/Runnable;" (.ref ac)) (P5 : Fld Z h0 a1 "com/example/holdback/holdback/sim/EventQueue$Stream" "first" "I" (.int f1)) (P6 : Fld Z h0 a1 "com/example/holdback/holdback/sim/EventQueue$Stream" "size" "I" (.int z1)) (P7 : Fld Z h0 a1 "com/example/holdback/holdback/sim/EventQueue$Stream" "lastAt" "D" (.double la)) (P8 : Arv Z h0 am km .double (8 : Int32) lm (.double (0 : UInt64))) (P9 : Arv Z h0 ap kp .long (8 : Int32) lp (.long (0 : Int64))) (P10 : Arv Z h0 ac kc (.object "java/lang/Runnable") (8 : Int32) lc .null) (OLD : Old Z n0 h0) (o1 : a1 < am) (o2 : am < ap) (o3 : ap < ac) (ga : n0 ≤ a1) (GM : own_G own_pd (.double (0 : UInt64)) (8 : Int32) lm) (GP : own_G own_pj (.long (0 : Int64)) (8 : Int32) lp) (GC : own_G own_pn .null (8 : Int32) lc) (hf : ¬ f1 < 0 ∧ f1 < 8) :
    MetFree l (⟨"com/example/holdback/holdback/sim/EventQueue$Stream", "removeFirst", "()Ljava/lang/Runnable;"⟩ : MethodName) (head1 (Jvm.Cond.code (⟨"com/example/holdback/holdback/sim/EventQueue$Stream", "removeFirst", "()Ljava/lang/Runnable;"⟩ : MethodName) prog_165_method_3_code 3 (some (.object "java/lang/Runnable")) :: ws) ({ frames := 0, cells := 0, slots := 0, locals := 0 } : Room)) (fun a U => a = #[(.ref a1)] ∧ Z.Warmed39 U.vm ∧ U.heap = h0) (fun _ _ _ _ _ => True) (fun _ U o U' => ∃ v L, o = .returned v ∧ Q_rmSR Z a1 am ap ac km kp kc lm lp lc f1 z1 la h0 n0 v U'.heap L ∧ FrameEnd U o U' L ({ frames := 0, cells := 0, slots := 0, locals := 0 } : Room).cells ({ frames := 0, cells := 0, slots := 0, locals := 0 } : Room).slots) := by
  refine MetFree.of_bodySF (plainFor_of_name pn_com_example_holdback_holdback_sim_EventQueue_Stream) hisR ?_
  intro p e s m args below meth c s₁ Bd hml0 hP hK
  obtain ⟨rfl, hZ, hh⟩ := hP
  have hx := Bd.exec
  have hby := Bd.bytes
  have hml : c.maxLocals = 3 := hml0
  have hown : s.vm.findClass "com/example/holdback/holdback/sim/EventQueue$Stream" = some m.cls := findClass_of_methodNamed Bd.named
  have hnm := (name_of_methodNamed Bd.named Bd.method).1
  have X0 : Stand p l e ({ frames := 0, cells := 0, slots := 0, locals := 0 } : Room) s m #[(.ref a1)] below meth c s₁ [] 0 0 := Stand.of_body Bd
  have e0 : s₁.heap = h0 := by rw [← hh, Bd.state]; rfl
  have N0 := Fr.nil n0
  have pre0 : ∀ t, Steps p.tables e below (s₁.setTop (mkF m 0 #[.val (.ref a1), .unset, .unset] [])) t → Steps p.tables e below (s₁.setTop (entryFrame m #[(.ref a1)] 3)) t := fun t k => castTop (ef_rmSR m a1) k
  have w_38 := hw _ (List.mem_of_getElem? (i := 38) rfl)
  have w_45 := hw _ (List.mem_of_getElem? (i := 45) rfl)
  have w_47 := hw _ (List.mem_of_getElem? (i := 47) rfl)
  have w_50 := hw _ (List.mem_of_getElem? (i := 50) rfl)
  have w_51 := hw _ (List.mem_of_getElem? (i := 51) rfl)
  have w_85 := hw _ (List.mem_of_getElem? (i := 85) rfl)
  have w_93 := hw _ (List.mem_of_getElem? (i := 93) rfl)
  have w_94 := hw _ (List.mem_of_getElem? (i := 94) rfl)
  have w_95 := hw _ (List.mem_of_getElem? (i := 95) rfl)
  have w_96 := hw _ (List.mem_of_getElem? (i := 96) rfl)
  have oz := OLD.1
  have lt_a1 : a1 < h0.size := P1.lt
  have lt_ac : ac < h0.size := P10.lt
  have lt_am : am < h0.size := P8.lt
  have lt_ap : ap < h0.size := P9.lt
  refine own_go (B := s₁.setTop (mkF m 0 #[.val (.ref a1), .unset, .unset] [])) pre0 ?_
  show ∃ t o, Steps p.tables e below (s₁.setTop (mkF m 0 #[.val (.ref a1), .unset, .unset] [])) t ∧ _
  refine own_go (fun _ => XS.aloadN X0.here hx rfl (hb hby d18_0) rfl rfl) ?_
  obtain ⟨T11, X11, e11, st11⟩ := getF X0 hx hZ hown (host := "") (Or.inl w_95) Via.refl e0 P5 (g := (mkF m 1 #[.val (.ref a1), .unset, .unset] [(.ref a1)])) rfl rfl (hb hby d18_1)
  refine own_go st11 ?_
  refine own_go (fun _ => XS.istoreN X11.here hx rfl (hb hby d18_4) rfl (l' := #[.val (.ref a1), .val (.int f1), .unset]) rfl) ?_
  refine own_go (fun _ => XS.aloadN X11.here hx rfl (hb hby d18_5) rfl rfl) ?_
  refine own_go (fun _ => XS.aloadN X11.here hx rfl (hb hby d18_6) rfl rfl) ?_
  obtain ⟨T12, X12, e12, st12⟩ := getF X11 hx hZ hown (host := "") (Or.inl w_95) Via.refl e11 P5 (g := (mkF m 7 #[.val (.ref a1), .val (.int f1), .unset] [(.ref a1), (.ref a1)])) rfl rfl (hb hby d18_7)
  refine own_go st12 ?_
  refine own_go (fun _ => XS.iconst X12.here hx rfl (hb hby d18_10)) ?_
  refine own_go (fun _ => XS.iadd X12.here hx rfl (hb hby d18_11) rfl) ?_
  show ∃ t o, Steps p.tables e below (T12.setTop (mkF m 12 #[.val (.ref a1), .val (.int f1), .unset] [(.int (f1 + (1 : Int32))), (.ref a1)])) t ∧ _
  refine own_go (fun _ => XS.aloadN X12.here hx rfl (hb hby d18_12) rfl rfl) ?_
  obtain ⟨T13, X13, e13, st13⟩ := getF X12 hx hZ hown (host := "") (Or.inl w_50) Via.refl e12 P4 (g := (mkF m 13 #[.val (.ref a1), .val (.int f1), .unset] [(.ref a1), (.int (f1 + (1 : Int32))), (.ref a1)])) rfl rfl (hb hby d18_13)
  refine own_go st13 ?_
  obtain ⟨cl14, Ar14, q14, S14, N14, H14, G14⟩ := id P10
  have ln14 : cl14.slots.size.toInt32 = (8 : Int32) := len_of S14 N14
  have al14 := X13.arraylength hx (by rw [e13]; exact Ar14.1) (State.isArrayOf_alike hZ.alike Ar14.2.1) (g := (mkF m 16 #[.val (.ref a1), .val (.int f1), .unset] [(.ref ac), (.int (f1 + (1 : Int32))), (.ref a1)])) rfl rfl (hb hby d18_16)
  rw [ln14] at al14
  refine own_go al14 ?_
  refine own_go (fun _ => XS.iconst X13.here hx rfl (hb hby d18_17)) ?_
  refine own_go (fun _ => XS.isub X13.here hx rfl (hb hby d18_18) rfl) ?_
  refine own_go (fun _ => XS.iand X13.here hx rfl (hb hby d18_19) rfl) ?_
  obtain ⟨T15, h15, X15, e15, W15, st15⟩ := putF X13 hx hZ hown (host := "") (Or.inl w_95) Via.refl e13 P5 P1 (Or.inl w_96) w_38 (ty := .int) (by decide) rfl rfl (g := (mkF m 20 #[.val (.ref a1), .val (.int f1), .unset] [(.int ((f1 + (1 : Int32)) &&& (7 : Int32))), (.ref a1)])) rfl rfl (hb hby d18_20)
  refine own_go st15 ?_
  have le_15 : h0.size ≤ h15.size := Nat.le_of_eq W15.size.symm
  have K15 : Keep h0 h15 [a1, ac] := Keep.wr (Keep.refl h0 [a1, ac]) W15 (Or.inl (List.mem_of_getElem? (i := 0) rfl))
  have N15 := Fr.snoc X15 N0 ga
  have Fw15 := Fld.same W15 P5
  refine own_go (fun _ => XS.aloadN X15.here hx rfl (hb hby d18_23) rfl rfl) ?_
  show ∃ t o, Steps p.tables e below (T15.setTop (mkF m 24 #[.val (.ref a1), .val (.int f1), .unset] [(.ref a1)])) t ∧ _
  refine own_go (fun _ => XS.dup X15.here hx rfl (hb hby d18_24) rfl rfl) ?_
  have F16 := (Fld.other W15 P6 (Or.inr (slot_ne (a0 := a0) (Or.inl w_94) (Or.inl w_96) (by decide) (t := .int) (t' := .int) (by decide) (by decide))))
  obtain ⟨T17, X17, e17, st17⟩ := getF X15 hx hZ hown (host := "") (Or.inl w_93) Via.refl e15 F16 (g := (mkF m 25 #[.val (.ref a1), .val (.int f1), .unset] [(.ref a1), (.ref a1)])) rfl rfl (hb hby d18_25)
  refine own_go st17 ?_
  refine own_go (fun _ => XS.iconst X17.here hx rfl (hb hby d18_28)) ?_
  refine own_go (fun _ => XS.isub X17.here hx rfl (hb hby d18_29) rfl) ?_
  have F18 := (Exa.wr W15 P1)
  obtain ⟨T19, h19, X19, e19, W19, st19⟩ := putF X17 hx hZ hown (host := "") (Or.inl w_93) Via.refl e17 F16 F18 (Or.inl w_94) w_38 (ty := .int) (by decide) rfl rfl (g := (mkF m 30 #[.val (.ref a1), .val (.int f1), .unset] [(.int (z1 - (1 : Int32))), (.ref a1)])) rfl rfl (hb hby d18_30)
  refine own_go st19 ?_
  have le_19 : h15.size ≤ h19.size := Nat.le_of_eq W19.size.symm
  have K19 : Keep h0 h19 [a1, ac] := Keep.wr K15 W19 (Or.inl (List.mem_of_getElem? (i := 0) rfl))
  have N19 := Fr.snoc X19 N15 ga
  have Fw19 := Fld.same W19 F16
  refine own_go (fun _ => XS.aloadN X19.here hx rfl (hb hby d18_33) rfl rfl) ?_
  have F20 := (Fld.other W19 (Fld.other W15 P4 (Or.inr (slot_ne (a0 := a0) (Or.inl w_51) (Or.inl w_96) (by decide) (t := (.array (.object "java/lang/Runnable"))) (t' := .int) (by decide) (by decide)))) (Or.inr (slot_ne (a0 := a0) (Or.inl w_51) (Or.inl w_94) (by decide) (t := (.array (.object "java/lang/Runnable"))) (t' := .int) (by decide) (by decide))))
  obtain ⟨T21, X21, e21, st21⟩ := getF X19 hx hZ hown (host := "") (Or.inl w_50) Via.refl e19 F20 (g := (mkF m 34 #[.val (.ref a1), .val (.int f1), .unset] [(.ref a1)])) rfl rfl (hb hby d18_34)
  refine own_go st21 ?_
  refine own_go (fun _ => XS.iloadN X21.here hx rfl (hb hby d18_37) rfl) ?_
  show ∃ t o, Steps p.tables e below (T21.setTop (mkF m 38 #[.val (.ref a1), .val (.int f1), .unset] [(.int f1), (.ref ac)])) t ∧ _
  have ne22 : ac ≠ a1 := own_ne (by omega)
  have F23 := (Arv.other (Arv.other P10 W15 ne22) W19 ne22)
  have ib25 : ¬ f1 < 0 ∧ f1 < (8 : Int32) := hf
  obtain ⟨cl24, Ar24, q24, S24, N24, H24, G24⟩ := id F23
  have hin24 : ¬ (f1 < 0 ∨ cl24.slots.size ≤ (f1).toNatClampNeg) := inb_of S24 ib25
  have hat24 : cl24.slots[(f1).toNatClampNeg]? = some .null := Has.at H24 hin24 (GC.at ib25)
  refine own_go (fun _ => X21.aaload hx (j := f1) (v := .null) (by rw [e21]; exact Ar24.1) (State.isArrayOf_alike hZ.alike Ar24.2.1) rfl Ar24.2.2 hin24 hat24 (g := (mkF m 38 #[.val (.ref a1), .val (.int f1), .unset] [(.int f1), (.ref ac)])) rfl rfl (hb hby d18_38) _) ?_
  refine own_go (fun _ => XS.astoreN X21.here hx rfl (hb hby d18_39) rfl rfl (l' := #[.val (.ref a1), .val (.int f1), .val .null]) rfl) ?_
  refine own_go (fun _ => XS.aloadN X21.here hx rfl (hb hby d18_40) rfl rfl) ?_
  obtain ⟨T27, X27, e27, st27⟩ := getF X21 hx hZ hown (host := "") (Or.inl w_50) Via.refl e21 F20 (g := (mkF m 41 #[.val (.ref a1), .val (.int f1), .val .null] [(.ref a1)])) rfl rfl (hb hby d18_41)
  refine own_go st27 ?_
  refine own_go (fun _ => XS.iloadN X27.here hx rfl (hb hby d18_44) rfl) ?_
  refine own_go (fun _ => XS.aconstNull X27.here hx rfl (hb hby d18_45)) ?_
  obtain ⟨cl28, Ar28, q28, S28, N28, H28, G28⟩ := id F23
  have ib29 : ¬ f1 < 0 ∧ f1 < (8 : Int32) := hf
  have Gs30 : own_G own_pn .null (8 : Int32) (lc.set (f1).toNatClampNeg .null) := own_G.set GC _ rfl
  have hin28 : ¬ (f1 < 0 ∨ cl28.slots.size ≤ (f1).toNatClampNeg) := inb_of S28 ib29
  obtain ⟨T31, h31, X31, e31, W31, st31⟩ := stR X27 hx hZ e27 Ar28 (j := f1) hin28 rfl (Or.inl rfl) (g := (mkF m 46 #[.val (.ref a1), .val (.int f1), .val .null] [.null, (.int f1), (.ref ac)])) rfl rfl (hb hby d18_46)
  refine own_go st31 ?_
  have ge32 : n0 ≤ ac := by omega
  have le_31 : h19.size ≤ h31.size := Nat.le_of_eq W31.size.symm
  have K31 : Keep h0 h31 [a1, ac] := Keep.wr K19 W31 (Or.inl (List.mem_of_getElem? (i := 1) rfl))
  have N31 := Fr.snoc X31 N19 ge32
  have V31 : Arv Z h31 ac kc (.object "java/lang/Runnable") (8 : Int32) (lc.set (f1).toNatClampNeg .null) .null := Arv.set Ar28 q28 S28 N28 H28 G28 rfl W31 (f1).toNatClampNeg rfl (GC.len ib29)
  refine own_go (fun _ => XS.aloadN X31.here hx rfl (hb hby d18_47) rfl rfl) ?_
  show ∃ t o, Steps p.tables e below (T31.setTop (mkF m 48 #[.val (.ref a1), .val (.int f1), .val .null] [.null])) t ∧ _
  have F33 := (Exa.wr W31 (Exa.wr W19 F18))
  have ne34 : a1 ≠ ac := own_ne (by omega)
  have F35 := (Fld.other W31 (Fld.other W19 (Fld.other W15 P2 (Or.inr (slot_ne (a0 := a0) (Or.inl w_45) (Or.inl w_96) (by decide) (t := (.array .double)) (t' := .int) (by decide) (by decide)))) (Or.inr (slot_ne (a0 := a0) (Or.inl w_45) (Or.inl w_94) (by decide) (t := (.array .double)) (t' := .int) (by decide) (by decide)))) (Or.inl ne34))
  have F36 := (Fld.other W31 (Fld.other W19 (Fld.other W15 P3 (Or.inr (slot_ne (a0 := a0) (Or.inl w_47) (Or.inl w_96) (by decide) (t := (.array .long)) (t' := .int) (by decide) (by decide)))) (Or.inr (slot_ne (a0 := a0) (Or.inl w_47) (Or.inl w_94) (by decide) (t := (.array .long)) (t' := .int) (by decide) (by decide)))) (Or.inl ne34))
  have F37 := (Fld.other W31 F20 (Or.inl ne34))
  have F38 := (Fld.other W31 (Fld.other W19 Fw15 (Or.inr (slot_ne (a0 := a0) (Or.inl w_96) (Or.inl w_94) (by decide) (t := .int) (t' := .int) (by decide) (by decide)))) (Or.inl ne34))
  have F39 := (Fld.other W31 Fw19 (Or.inl ne34))
  have F40 := (Fld.other W31 (Fld.other W19 (Fld.other W15 P7 (Or.inr (slot_ne (a0 := a0) (Or.inl w_85) (Or.inl w_96) (by decide) (t := .double) (t' := .int) (by decide) (by decide)))) (Or.inr (slot_ne (a0 := a0) (Or.inl w_85) (Or.inl w_94) (by decide) (t := .double) (t' := .int) (by decide) (by decide)))) (Or.inl ne34))
  obtain ⟨fs, hr, hrun, hended, hW, hsame⟩ := X31.leave (v := some .null) (fun h => by rw [Bd.returns] at h; cases h)
  refine ⟨_, _, ?_, hrun, hended, _, _, rfl, ?_, ⟨_, rfl⟩, hW, hsame.mono (by decide) (by decide)⟩
  · jvm_step X31.here [X31.here.top, hx, (hb hby d18_48), X31.method', Bd.returns, Value.isRef, FieldType.isReference]
    first | (intro acts; rw [hr _ acts rfl rfl rfl]) | rw [hr _ _ rfl rfl rfl]
    exact Steps.refl _
  · show Q_rmSR Z _ _ _ _ _ _ _ _ _ _ _ _ _ h0 n0 _ T31.heap _
    rw [e31]
    exact ⟨rfl, N31, K31, F33, F35, F36, F37, F38, F39, F40, V31, Gs30⟩
theorem ef_rmFC0 (m : MethodId) (x0 : Nat) (x1 : Int32) (x2 : Int32) : entryFrame m #[(.ref x0), (.int x1), (.int x2)] 5 = mkF m 0 #[.val (.ref x0), .val (.int x1), .val (.int x2), .unset, .unset] [] := by first | (simp [entryFrame, mkF, argsToLocals, Value.category]; done) | rfl
theorem d15_0 : decode prog_164_method_8_code 0 = .ok (.aload_n 0, 1) := by decide +kernel
theorem d15_1 : decode prog_164_method_8_code 1 = .ok (.getfield 21, 3) := by decide +kernel
theorem d15_4 : decode prog_164_method_8_code 4 = .ok (.iload_n 1, 1) := by decide +kernel
theorem d15_5 : decode prog_164_method_8_code 5 = .ok (.aaload, 1) := by decide +kernel
theorem d15_6 : decode prog_164_method_8_code 6 = .ok (.astore_n 3, 1) := by decide +kernel
theorem d15_7 : decode prog_164_method_8_code 7 = .ok (.aload_n 3, 1) := by decide +kernel
theorem d15_8 : decode prog_164_method_8_code 8 = .ok (.getfield 77, 3) := by decide +kernel
theorem d15_11 : decode prog_164_method_8_code 11 = .ok (.ifCond .ne 24, 3) := by decide +kernel
theorem d15_14 : decode prog_164_method_8_code 14 = .ok (.aload_n 0, 1) := by decide +kernel
theorem d15_15 : decode prog_164_method_8_code 15 = .ok (.getfield 27, 3) := by decide +kernel
theorem d15_18 : decode prog_164_method_8_code 18 = .ok (.iload_n 1, 1) := by decide +kernel
theorem d15_19 : decode prog_164_method_8_code 19 = .ok (.ldc2_w 42, 3) := by decide +kernel
theorem d15_22 : decode prog_164_method_8_code 22 = .ok (.dastore, 1) := by decide +kernel
theorem d15_23 : decode prog_164_method_8_code 23 = .ok (.aload_n 0, 1) := by decide +kernel
theorem d15_24 : decode prog_164_method_8_code 24 = .ok (.getfield 31, 3) := by decide +kernel
theorem d15_27 : decode prog_164_method_8_code 27 = .ok (.iload_n 1, 1) := by decide +kernel
theorem d15_28 : decode prog_164_method_8_code 28 = .ok (.ldc2_w 46, 3) := by decide +kernel
theorem d15_31 : decode prog_164_method_8_code 31 = .ok (.lastore, 1) := by decide +kernel
theorem d15_32 : decode prog_164_method_8_code 32 = .ok (.goto 33, 3) := by decide +kernel
theorem d15_65 : decode prog_164_method_8_code 65 = .ok (.aload_n 0, 1) := by decide +kernel
theorem d15_66 : decode prog_164_method_8_code 66 = .ok (.getfield 21, 3) := by decide +kernel
theorem d15_69 : decode prog_164_method_8_code 69 = .ok (.arraylength, 1) := by decide +kernel
theorem d15_70 : decode prog_164_method_8_code 70 = .ok (.iload_n 1, 1) := by decide +kernel
theorem d15_71 : decode prog_164_method_8_code 71 = .ok (.iadd, 1) := by decide +kernel
theorem d15_72 : decode prog_164_method_8_code 72 = .ok (.iconst 1, 1) := by decide +kernel
theorem d15_73 : decode prog_164_method_8_code 73 = .ok (.iushr, 1) := by decide +kernel
theorem d15_74 : decode prog_164_method_8_code 74 = .ok (.istore 4, 2) := by decide +kernel
theorem d15_76 : decode prog_164_method_8_code 76 = .ok (.iload 4, 2) := by decide +kernel
theorem d15_78 : decode prog_164_method_8_code 78 = .ok (.ifCond .le 34, 3) := by decide +kernel
theorem d15_81 : decode prog_164_method_8_code 81 = .ok (.aload_n 0, 1) := by decide +kernel
theorem d15_82 : decode prog_164_method_8_code 82 = .ok (.iload 4, 2) := by decide +kernel
theorem d15_84 : decode prog_164_method_8_code 84 = .ok (.invokevirtual 48, 3) := by decide +kernel
theorem pd__28I_29V : parseMethodDescriptor "(I)V" = some ⟨[.int], none⟩ := by decide +kernel
theorem d15_87 : decode prog_164_method_8_code 87 = .ok (.iload_n 2, 1) := by decide +kernel
theorem d15_88 : decode prog_164_method_8_code 88 = .ok (.ifCond .eq 15, 3) := by decide +kernel
theorem d15_103 : decode prog_164_method_8_code 103 = .ok (.iload 4, 2) := by decide +kernel
theorem d15_105 : decode prog_164_method_8_code 105 = .ok (.iconst 1, 1) := by decide +kernel
theorem d15_106 : decode prog_164_method_8_code 106 = .ok (.iushr, 1) := by decide +kernel
theorem d15_107 : decode prog_164_method_8_code 107 = .ok (.istore 4, 2) := by decide +kernel
theorem d15_109 : decode prog_164_method_8_code 109 = .ok (.goto (-33), 3) := by decide +kernel
theorem d15_112 : decode prog_164_method_8_code 112 = .ok (.return_, 1) := by decide +kernel
theorem d15_35 : decode prog_164_method_8_code 35 = .ok (.aload_n 0, 1) := by decide +kernel
theorem d15_36 : decode prog_164_method_8_code 36 = .ok (.getfield 27, 3) := by decide +kernel
theorem d15_39 : decode prog_164_method_8_code 39 = .ok (.iload_n 1, 1) := by decide +kernel
theorem d15_40 : decode prog_164_method_8_code 40 = .ok (.aload_n 3, 1) := by decide +kernel
theorem d15_41 : decode prog_164_method_8_code 41 = .ok (.getfield 94, 3) := by decide +kernel
theorem d15_44 : decode prog_164_method_8_code 44 = .ok (.aload_n 3, 1) := by decide +kernel
theorem d15_45 : decode prog_164_method_8_code 45 = .ok (.getfield 97, 3) := by decide +kernel
theorem d15_48 : decode prog_164_method_8_code 48 = .ok (.daload, 1) := by decide +kernel
theorem d15_49 : decode prog_164_method_8_code 49 = .ok (.dastore, 1) := by decide +kernel
theorem d15_50 : decode prog_164_method_8_code 50 = .ok (.aload_n 0, 1) := by decide +kernel
theorem d15_51 : decode prog_164_method_8_code 51 = .ok (.getfield 31, 3) := by decide +kernel
theorem d15_54 : decode prog_164_method_8_code 54 = .ok (.iload_n 1, 1) := by decide +kernel
theorem d15_55 : decode prog_164_method_8_code 55 = .ok (.aload_n 3, 1) := by decide +kernel
theorem d15_56 : decode prog_164_method_8_code 56 = .ok (.getfield 100, 3) := by decide +kernel
theorem d15_59 : decode prog_164_method_8_code 59 = .ok (.aload_n 3, 1) := by decide +kernel
theorem d15_60 : decode prog_164_method_8_code 60 = .ok (.getfield 97, 3) := by decide +kernel
theorem d15_63 : decode prog_164_method_8_code 63 = .ok (.laload, 1) := by decide +kernel
theorem d15_64 : decode prog_164_method_8_code 64 = .ok (.lastore, 1) := by decide +kernel
def Q_rmFC0 (Z : State) (q1 : Nat) (fa : Nat) (fp : Nat) (wi : Nat) (kf : ClassId) (kp : ClassId) (kw : ClassId) (ds : List Value) (ls : List Value) (wl : List Value) (zN : Int32) (z2 : Int32) (ss : Nat) (ks : ClassId) (vs : List Value) (ff : Nat → Nat) (TT : Int) (KK : Int) (s1 : Int32) (h0 : Heap) (n0 : Nat) (v : Option Value) (h : Heap) (L : List Loc) : Prop := ∃ (ds2 : List Value), ∃ (ls2 : List Value), ∃ (wl2 : List Value), v = none ∧ Fr n0 L ∧ Keep h0 h [fa, fp, wi] ∧ Arv Z h fa kf .double zN ds2 (.double (0 : UInt64)) ∧ Arv Z h fp kp .long zN ls2 (.long (0 : Int64)) ∧ Arv Z h wi kw .int z2 wl2 (.int (0 : Int32)) ∧ (own_G own_pd (.double (0 : UInt64)) zN ds2) ∧ (own_G own_pj (.long (0 : Int64)) zN ls2) ∧ (own_G (own_pw zN) (.int (0 : Int32)) z2 wl2)
set_option maxRecDepth 65536 in
set_option maxHeartbeats 40000000 in
theorem rmFC0 (l : Launch) (Z : State) (a0 : Array Value) (hw : ∀ d ∈ tables_1, d.before a0 Z = true) (ws : List Jvm.Cond) (q1 : Nat) (fa : Nat) (fp : Nat) (wi : Nat) (kf : ClassId) (kp : ClassId) (kw : ClassId) (ds : List Value) (ls : List Value) (wl : List Value) (zN : Int32) (z2 : Int32) (ss : Nat) (ks : ClassId) (vs : List Value) (ff : Nat → Nat) (TT : Int) (KK : Int) (s1 : Int32) (h0 : Heap) (n0 : Nat) (Z0 : n0 ≤ h0.size) (P1 : Exa Z h0 q1 "com/example/holdback/holdback/sim/EventQueue") (P2 : Fld Z h0 q1 "com/example/holdback/holdback/sim/EventQueue" "firstAt" "[D" (.ref fa)) (P3 : Fld Z h0 q1 "com/example/holdback/holdback/sim/EventQueue" "firstPlace" "[J" (.ref fp)) (P4 : Fld Z h0 q1 "com/example/holdback/holdback/sim/EventQueue" "winners" "[I" (.ref wi)) (P5 : Arv Z h0 fa kf .double zN ds (.double (0 : UInt64))) (P6 : Arv Z h0 fp kp .long zN ls (.long (0 : Int64))) (P7 : Arv Z h0 wi kw .int z2 wl (.int (0 : Int32))) (P8 : Fld Z h0 q1 "com/example/holdback/holdback/sim/EventQueue" "streams" "[Lcom/example/holdback/holdback/sim/EventQueue$Stream;" (.ref ss)) (P9 : Arv Z h0 ss ks (.object "com/example/holdback/holdback/sim/EventQueue$Stream") zN vs .null) (P10 : own_SS Z h0 zN.toNatClampNeg ff TT KK) (OLD : Old Z n0 h0) (GD : own_G own_pd (.double (0 : UInt64)) zN ds) (GJ : own_G own_pj (.long (0 : Int64)) zN ls) (GW : own_G (own_pw zN) (.int (0 : Int32)) z2 wl) (HN : own_N zN z2) (HR : own_R zN ff vs) (o1 : q1 < ss) (o2 : ss < fa) (o3 : fa < fp) (o4 : fp < wi) (o5 : wi < ff 0) (gq : n0 ≤ q1) (hs : ¬ s1 < 0 ∧ s1 < zN) :
    MetFree l (⟨"com/example/holdback/holdback/sim/EventQueue", "firstChanged", "(IZ)V"⟩ : MethodName) (head1 (Jvm.Cond.code (⟨"com/example/holdback/holdback/sim/EventQueue", "firstChanged", "(IZ)V"⟩ : MethodName) prog_164_method_8_code 5 none :: ws) ({ frames := 4, cells := 0, slots := 0, locals := 109 } : Room)) (fun a U => a = #[(.ref q1), (.int s1), (.int (0 : Int32))] ∧ Z.Warmed39 U.vm ∧ U.heap = h0) (fun _ _ _ _ _ => True) (fun _ U o U' => ∃ v L, o = .returned v ∧ Q_rmFC0 Z q1 fa fp wi kf kp kw ds ls wl zN z2 ss ks vs ff TT KK s1 h0 n0 v U'.heap L ∧ FrameEnd U o U' L ({ frames := 4, cells := 0, slots := 0, locals := 109 } : Room).cells ({ frames := 4, cells := 0, slots := 0, locals := 109 } : Room).slots) := by
  refine MetFree.of_bodySF (plainFor_of_name pn_com_example_holdback_holdback_sim_EventQueue) hisR ?_
  intro p e s m args below meth c s₁ Bd hml0 hP hK
  obtain ⟨rfl, hZ, hh⟩ := hP
  have hx := Bd.exec
  have hby := Bd.bytes
  have hml : c.maxLocals = 5 := hml0
  have hown : s.vm.findClass "com/example/holdback/holdback/sim/EventQueue" = some m.cls := findClass_of_methodNamed Bd.named
  have hnm := (name_of_methodNamed Bd.named Bd.method).1
  have X0 : Stand p l e ({ frames := 4, cells := 0, slots := 0, locals := 109 } : Room) s m #[(.ref q1), (.int s1), (.int (0 : Int32))] below meth c s₁ [] 0 0 := Stand.of_body Bd
  have e0 : s₁.heap = h0 := by rw [← hh, Bd.state]; rfl
  have N0 := Fr.nil n0
  have pre0 : ∀ t, Steps p.tables e below (s₁.setTop (mkF m 0 #[.val (.ref q1), .val (.int s1), .val (.int (0 : Int32)), .unset, .unset] [])) t → Steps p.tables e below (s₁.setTop (entryFrame m #[(.ref q1), (.int s1), (.int (0 : Int32))] 5)) t := fun t k => castTop (ef_rmFC0 m q1 s1 (0 : Int32)) k
  have w_104 := hw _ (List.mem_of_getElem? (i := 104) rfl)
  have w_27 := hw _ (List.mem_of_getElem? (i := 27) rfl)
  have w_30 := hw _ (List.mem_of_getElem? (i := 30) rfl)
  have w_33 := hw _ (List.mem_of_getElem? (i := 33) rfl)
  have w_55 := hw _ (List.mem_of_getElem? (i := 55) rfl)
  have w_56 := hw _ (List.mem_of_getElem? (i := 56) rfl)
  have w_57 := hw _ (List.mem_of_getElem? (i := 57) rfl)
  have w_58 := hw _ (List.mem_of_getElem? (i := 58) rfl)
  have w_6 := hw _ (List.mem_of_getElem? (i := 6) rfl)
  have w_75 := hw _ (List.mem_of_getElem? (i := 75) rfl)
  have oz := OLD.1
  have lt_fa : fa < h0.size := P5.lt
  have lt_fp : fp < h0.size := P6.lt
  have lt_q1 : q1 < h0.size := P1.lt
  have lt_ss : ss < h0.size := P9.lt
  have lt_wi : wi < h0.size := P7.lt
  refine own_go (B := s₁.setTop (mkF m 0 #[.val (.ref q1), .val (.int s1), .val (.int (0 : Int32)), .unset, .unset] [])) pre0 ?_
  show ∃ t o, Steps p.tables e below (s₁.setTop (mkF m 0 #[.val (.ref q1), .val (.int s1), .val (.int (0 : Int32)), .unset, .unset] [])) t ∧ _
  refine own_go (fun _ => XS.aloadN X0.here hx rfl (hb hby d15_0) rfl rfl) ?_
  obtain ⟨T11, X11, e11, st11⟩ := getF X0 hx hZ hown (host := "") (Or.inl w_27) Via.refl e0 P8 (g := (mkF m 1 #[.val (.ref q1), .val (.int s1), .val (.int (0 : Int32)), .unset, .unset] [(.ref q1)])) rfl rfl (hb hby d15_1)
  refine own_go st11 ?_
  refine own_go (fun _ => XS.iloadN X11.here hx rfl (hb hby d15_4) rfl) ?_
  have ib13 : ¬ s1 < 0 ∧ s1 < zN := hs
  obtain ⟨aa14, ea14⟩ : ∃ z, z = ff (s1).toNatClampNeg := ⟨_, rfl⟩
  obtain ⟨hi14, eh14⟩ : ∃ z, z = ff ((s1).toNatClampNeg + 1) := ⟨_, rfl⟩
  have hr14 := HR s1 ib13.1 ib13.2
  have os14 := P10 (s1).toNatClampNeg (own_lti ib13.1 ib13.2)
  have om14 := own_SS.mono P10 0 (s1).toNatClampNeg (Nat.zero_le _) (Nat.le_of_lt (own_lti ib13.1 ib13.2))
  rw [← ea14] at hr14 os14 om14
  rw [← eh14] at os14
  obtain ⟨am_14, ap_14, ac_14, km_14, kp_14, kc_14, lm_14, lp_14, lc_14, f1_14, z1_14, x1_14, Sl1_14, Sl2_14, Sl3_14, Sl4_14, SE_14, SF1_14, SF2_14, SF3_14, SF4_14, SF5_14, SF6_14, SA1_14, SA2_14, SA3_14, SG1_14, SG2_14, SG3_14, SB1_14, SB2_14, SB3_14⟩ := os14
  obtain ⟨cl12, Ar12, q12, S12, N12, H12, G12⟩ := id P9
  have hin12 : ¬ (s1 < 0 ∨ cl12.slots.size ≤ (s1).toNatClampNeg) := inb_of S12 ib13
  have hat12 : cl12.slots[(s1).toNatClampNeg]? = some (.ref aa14) := Has.at H12 hin12 hr14
  refine own_go (fun _ => X11.aaload hx (j := s1) (v := (.ref aa14)) (by rw [e11]; exact Ar12.1) (State.isArrayOf_alike hZ.alike Ar12.2.1) rfl Ar12.2.2 hin12 hat12 (g := (mkF m 5 #[.val (.ref q1), .val (.int s1), .val (.int (0 : Int32)), .unset, .unset] [(.int s1), (.ref ss)])) rfl rfl (hb hby d15_5) _) ?_
  refine own_go (fun _ => XS.astoreN X11.here hx rfl (hb hby d15_6) rfl rfl (l' := #[.val (.ref q1), .val (.int s1), .val (.int (0 : Int32)), .val (.ref aa14), .unset]) rfl) ?_
  refine own_go (fun _ => XS.aloadN X11.here hx rfl (hb hby d15_7) rfl rfl) ?_
  obtain ⟨T15, X15, e15, st15⟩ := own_getR X11 hx hZ hown (hw _ (List.mem_of_getElem? (i := 98) rfl)) e11 SF5_14 (g := (mkF m 8 #[.val (.ref q1), .val (.int s1), .val (.int (0 : Int32)), .val (.ref aa14), .unset] [(.ref aa14)])) rfl rfl (hb hby d15_8)
  refine own_go st15 ?_
  show ∃ t o, Steps p.tables e below (T15.setTop (mkF m 11 #[.val (.ref q1), .val (.int s1), .val (.int (0 : Int32)), .val (.ref aa14), .unset] [(.int z1_14)])) t ∧ _
  by_cases hc16 : z1_14 = (0 : Int32)
  · refine own_go (fun _ => XS.ifNo X15.here hx rfl (hb hby d15_11) rfl ((if0 _ _).trans (teq hc16).2)) ?_
    refine own_go (fun _ => XS.aloadN X15.here hx rfl (hb hby d15_14) rfl rfl) ?_
    obtain ⟨T17, X17, e17, st17⟩ := getF X15 hx hZ hown (host := "") (Or.inl w_30) Via.refl e15 P2 (g := (mkF m 15 #[.val (.ref q1), .val (.int s1), .val (.int (0 : Int32)), .val (.ref aa14), .unset] [(.ref q1)])) rfl rfl (hb hby d15_15)
    refine own_go st17 ?_
    refine own_go (fun _ => XS.iloadN X17.here hx rfl (hb hby d15_18) rfl) ?_
    refine own_go (fun _ => X17.ldc2DoubleC hx hown (mvT hZ (hw _ (List.mem_of_getElem? (i := 53) rfl))) (g := (mkF m 19 #[.val (.ref q1), .val (.int s1), .val (.int (0 : Int32)), .val (.ref aa14), .unset] [(.int s1), (.ref fa)])) rfl (hb hby d15_19) _) ?_
    obtain ⟨cl18, Ar18, q18, S18, N18, H18, G18⟩ := id P5
    have ib19 : ¬ s1 < 0 ∧ s1 < zN := hs
    have Gs20 : own_G own_pd (.double (0 : UInt64)) zN (ds.set (s1).toNatClampNeg (.double (9218868437227405312 : UInt64))) := own_G.set GD _ ⟨_, rfl, own_inf⟩
    have hin18 : ¬ (s1 < 0 ∨ cl18.slots.size ≤ (s1).toNatClampNeg) := inb_of S18 ib19
    obtain ⟨T21, h21, X21, e21, W21, st21⟩ := stD X17 hx hZ e17 Ar18 (j := s1) hin18 (g := (mkF m 22 #[.val (.ref q1), .val (.int s1), .val (.int (0 : Int32)), .val (.ref aa14), .unset] [(.double (9218868437227405312 : UInt64)), (.int s1), (.ref fa)])) rfl rfl (hb hby d15_22)
    refine own_go st21 ?_
    have ge22 : n0 ≤ fa := by omega
    have le_21 : h0.size ≤ h21.size := Nat.le_of_eq W21.size.symm
    have K21 : Keep h0 h21 [fa, fp, wi] := Keep.wr (Keep.refl h0 [fa, fp, wi]) W21 (Or.inl (List.mem_of_getElem? (i := 0) rfl))
    have N21 := Fr.snoc X21 N0 ge22
    have V21 : Arv Z h21 fa kf .double zN (ds.set (s1).toNatClampNeg (.double (9218868437227405312 : UInt64))) (.double (0 : UInt64)) := Arv.set Ar18 q18 S18 N18 H18 G18 rfl W21 (s1).toNatClampNeg rfl (GD.len ib19)
    refine own_go (fun _ => XS.aloadN X21.here hx rfl (hb hby d15_23) rfl rfl) ?_
    have ne23 : q1 ≠ fa := own_ne (by omega)
    have F24 := (Fld.other W21 P3 (Or.inl ne23))
    obtain ⟨T25, X25, e25, st25⟩ := getF X21 hx hZ hown (host := "") (Or.inl w_33) Via.refl e21 F24 (g := (mkF m 24 #[.val (.ref q1), .val (.int s1), .val (.int (0 : Int32)), .val (.ref aa14), .unset] [(.ref q1)])) rfl rfl (hb hby d15_24)
    refine own_go st25 ?_
    show ∃ t o, Steps p.tables e below (T25.setTop (mkF m 27 #[.val (.ref q1), .val (.int s1), .val (.int (0 : Int32)), .val (.ref aa14), .unset] [(.ref fp)])) t ∧ _
    refine own_go (fun _ => XS.iloadN X25.here hx rfl (hb hby d15_27) rfl) ?_
    refine own_go (fun _ => X25.ldc2Long hx hown (mvT hZ (hw _ (List.mem_of_getElem? (i := 54) rfl))) (g := (mkF m 28 #[.val (.ref q1), .val (.int s1), .val (.int (0 : Int32)), .val (.ref aa14), .unset] [(.int s1), (.ref fp)])) rfl (hb hby d15_28) _) ?_
    have ne26 : fp ≠ fa := own_ne (by omega)
    have F27 := (Arv.other P6 W21 ne26)
    obtain ⟨cl28, Ar28, q28, S28, N28, H28, G28⟩ := id F27
    have ib29 : ¬ s1 < 0 ∧ s1 < zN := hs
    have Gs30 : own_G own_pj (.long (0 : Int64)) zN (ls.set (s1).toNatClampNeg (.long (9223372036854775807 : Int64))) := own_G.set GJ _ ⟨_, rfl⟩
    have hin28 : ¬ (s1 < 0 ∨ cl28.slots.size ≤ (s1).toNatClampNeg) := inb_of S28 ib29
    obtain ⟨T31, h31, X31, e31, W31, st31⟩ := stJ X25 hx hZ e25 Ar28 (j := s1) hin28 (g := (mkF m 31 #[.val (.ref q1), .val (.int s1), .val (.int (0 : Int32)), .val (.ref aa14), .unset] [(.long (9223372036854775807 : Int64)), (.int s1), (.ref fp)])) rfl rfl (hb hby d15_31)
    refine own_go st31 ?_
    have ge32 : n0 ≤ fp := by omega
    have le_31 : h21.size ≤ h31.size := Nat.le_of_eq W31.size.symm
    have K31 : Keep h0 h31 [fa, fp, wi] := Keep.wr K21 W31 (Or.inl (List.mem_of_getElem? (i := 1) rfl))
    have N31 := Fr.snoc X31 N21 ge32
    have V31 : Arv Z h31 fp kp .long zN (ls.set (s1).toNatClampNeg (.long (9223372036854775807 : Int64))) (.long (0 : Int64)) := Arv.set Ar28 q28 S28 N28 H28 G28 rfl W31 (s1).toNatClampNeg rfl (GJ.len ib29)
    refine own_go (fun _ => XS.goto X31.here hx rfl (pc0 := 32) (pc' := 65) rfl (hb hby d15_32) (by decide) (by decide)) ?_
    refine own_go (fun _ => XS.aloadN X31.here hx rfl (hb hby d15_65) rfl rfl) ?_
    have ne33 : q1 ≠ fp := own_ne (by omega)
    have F34 := (Fld.other W31 (Fld.other W21 P8 (Or.inl ne23)) (Or.inl ne33))
    obtain ⟨T35, X35, e35, st35⟩ := getF X31 hx hZ hown (host := "") (Or.inl w_27) Via.refl e31 F34 (g := (mkF m 66 #[.val (.ref q1), .val (.int s1), .val (.int (0 : Int32)), .val (.ref aa14), .unset] [(.ref q1)])) rfl rfl (hb hby d15_66)
    refine own_go st35 ?_
    have ne36 : ss ≠ fa := own_ne (by omega)
    have ne37 : ss ≠ fp := own_ne (by omega)
    have F38 := (Arv.other (Arv.other P9 W21 ne36) W31 ne37)
    obtain ⟨cl39, Ar39, q39, S39, N39, H39, G39⟩ := id F38
    have ln39 : cl39.slots.size.toInt32 = zN := len_of S39 N39
    have al39 := X35.arraylength hx (by rw [e35]; exact Ar39.1) (State.isArrayOf_alike hZ.alike Ar39.2.1) (g := (mkF m 69 #[.val (.ref q1), .val (.int s1), .val (.int (0 : Int32)), .val (.ref aa14), .unset] [(.ref ss)])) rfl rfl (hb hby d15_69)
    rw [ln39] at al39
    refine own_go al39 ?_
    refine own_go (fun _ => XS.iloadN X35.here hx rfl (hb hby d15_70) rfl) ?_
    show ∃ t o, Steps p.tables e below (T35.setTop (mkF m 71 #[.val (.ref q1), .val (.int s1), .val (.int (0 : Int32)), .val (.ref aa14), .unset] [(.int s1), (.int zN)])) t ∧ _
    refine own_go (fun _ => XS.iadd X35.here hx rfl (hb hby d15_71) rfl) ?_
    refine own_go (fun _ => XS.iconst X35.here hx rfl (hb hby d15_72)) ?_
    refine own_go (fun _ => XS.iushr X35.here hx rfl (hb hby d15_73) rfl) ?_
    refine own_go (fun _ => XS.istore X35.here hx rfl (hb hby d15_74) rfl (l' := #[.val (.ref q1), .val (.int s1), .val (.int (0 : Int32)), .val (.ref aa14), .val (.int (((zN + s1).toUInt32 >>> ((1 : Int32) &&& 31).toUInt32).toInt32))]) rfl) ?_
    obtain ⟨nd40, e_nd40, b_nd40⟩ : ∃ z : Int32, z = (((zN + s1).toUInt32 >>> ((1 : Int32) &&& 31).toUInt32).toInt32) ∧ 0 ≤ z.toInt ∧ z.toInt < zN.toInt ∧ z.toInt < 8 := ⟨_, rfl, (have u := own_nd0 HN hs; have q := HN.int; show 0 ≤ _ ∧ _ ∧ _ from ⟨u.1, u.2, by omega⟩)⟩
    show ∃ t o, Steps p.tables e below (T35.setTop (mkF m 76 #[.val (.ref q1), .val (.int s1), .val (.int (0 : Int32)), .val (.ref aa14), .val (.int (((zN + s1).toUInt32 >>> ((1 : Int32) &&& 31).toUInt32).toInt32))] [])) t ∧ _
    rw [← e_nd40]
    have l_nd40 : nd40 < zN := own_ilt b_nd40.2.1
    show ∃ t o, Steps p.tables e below (T35.setTop (mkF m 76 #[.val (.ref q1), .val (.int s1), .val (.int (0 : Int32)), .val (.ref aa14), .val (.int nd40)] [])) t ∧ _
    refine own_go (fun _ => XS.iload X35.here hx rfl (hb hby d15_76) rfl) ?_
    show ∃ t o, Steps p.tables e below (T35.setTop (mkF m 78 #[.val (.ref q1), .val (.int s1), .val (.int (0 : Int32)), .val (.ref aa14), .val (.int nd40)] [(.int nd40)])) t ∧ _
    by_cases hc41 : (0 : Int32) < nd40
    · refine own_go (fun _ => XS.ifNo X35.here hx rfl (hb hby d15_78) rfl ((if0 _ _).trans (tlt hc41).2.2.2)) ?_
      refine own_go (fun _ => XS.aloadN X35.here hx rfl (hb hby d15_81) rfl rfl) ?_
      refine own_go (fun _ => XS.iload X35.here hx rfl (hb hby d15_82) rfl) ?_
      show ∃ t o, Steps p.tables e below (T35.setTop (mkF m 84 #[.val (.ref q1), .val (.int s1), .val (.int (0 : Int32)), .val (.ref aa14), .val (.int nd40)] [(.int nd40), (.ref q1)])) t ∧ _
      have F42 := (Exa.wr W31 (Exa.wr W21 P1))
      have F43 := (Fld.other W31 (Fld.other W21 P2 (Or.inl ne23)) (Or.inl ne33))
      have F44 := (Fld.other W31 F24 (Or.inl ne33))
      have F45 := (Fld.other W31 (Fld.other W21 P4 (Or.inl ne23)) (Or.inl ne33))
      have ne46 : fa ≠ fp := own_ne (by omega)
      have F47 := (Arv.other V21 W31 ne46)
      have ne48 : wi ≠ fa := own_ne (by omega)
      have ne49 : wi ≠ fp := own_ne (by omega)
      have F50 := (Arv.other (Arv.other P7 W21 ne48) W31 ne49)
      have F51 := (Old.wr (Old.wr OLD W21 ge22) W31 ge32)
      have zl52 : n0 ≤ h31.size := by omega
      obtain ⟨cq53, q53, q53'⟩ := F42.cell
      obtain ⟨_, _, ⟨T53, L53, k53, n53⟩, -, X53, ⟨Lc53, hQ53, l53, y53, z53⟩, st53⟩ := X35.privateBack hx (y := (⟨"com/example/holdback/holdback/sim/EventQueue", "play", "(I)V"⟩ : MethodName)) hown (mvT hZ w_55) (mvT hZ w_56) (mvT hZ (own_selp (y := (⟨"com/example/holdback/holdback/sim/EventQueue", "play", "(I)V"⟩ : MethodName)) w_75 rfl w_57 w_56 (by decide))) (Cond.privateMethod_at (mvP hZ w_57 (args := #[]))) (mvT hZ w_58) (by decide) (backOf (W := 0) (rmPlay l Z a0 hw [] q1 fa fp wi kf kp kw ((ds.set (s1).toNatClampNeg (.double (9218868437227405312 : UInt64)))) ((ls.set (s1).toNatClampNeg (.long (9223372036854775807 : Int64)))) wl zN z2 nd40 h31 n0 zl52 F42 F43 F44 F45 F47 V31 F50 F51 Gs20 Gs30 GW HN hc41 l_nd40 (by omega) (by omega) (by omega) (by omega)) hZ w_58 w_6 (by decide) (by decide)) (g := (mkF m 84 #[.val (.ref q1), .val (.int s1), .val (.int (0 : Int32)), .val (.ref aa14), .val (.int nd40)] [(.int nd40), (.ref q1)])) rfl (by rw [hml]; rfl) (Steps.refl _) (a := q1) (by rw [e35]; exact q53) q53' (argsL := [(.int nd40)]) (rest := []) (lenOf pd__28I_29V rfl) rfl (by show 2 * 0 + _ ≤ _; exact Nat.le_of_eq rfl) (hb hby d15_84) (fun _ _ => ⟨rfl, e35, (by decide : 0 + 0 ≤ _), (by decide : 0 + 0 ≤ _)⟩)
      dsimp only [Pt.U, Pt.locs, Pt.cells, Pt.slots] at X53 l53 y53 z53 st53 hQ53
      rw [l53, y53, z53] at X53
      obtain ⟨wl2_53, rfl, Nq53, Kp53, G53_0, H53_0⟩ := hQ53
      have N53 := Fr.app N31 Nq53
      refine own_goT st53 ?_
      have le_53 : h31.size ≤ T53.heap.size := Kp53.1
      have ge54 : n0 ≤ wi := by omega
      have K53 : Keep h0 T53.heap [fa, fp, wi] := Keep.trans K31 Kp53 (allS (Or.inl (List.mem_of_getElem? (i := 2) rfl)) all0)
      refine own_go (fun _ => XS.iloadN X53.here hx rfl (hb hby d15_87) rfl) ?_
      show ∃ t o, Steps p.tables e below (T53.setTop (mkF m 88 #[.val (.ref q1), .val (.int s1), .val (.int (0 : Int32)), .val (.ref aa14), .val (.int nd40)] [(.int (0 : Int32))])) t ∧ _
      refine own_go (fun _ => XS.ifYes X53.here hx rfl (pc0 := 88) (pc' := 103) rfl (hb hby d15_88) rfl ((if0 _ _).trans (teq (by decide : (0 : Int32) = (0 : Int32))).1) (by decide) (by decide)) ?_
      refine own_go (fun _ => XS.iload X53.here hx rfl (hb hby d15_103) rfl) ?_
      refine own_go (fun _ => XS.iconst X53.here hx rfl (hb hby d15_105)) ?_
      refine own_go (fun _ => XS.iushr X53.here hx rfl (hb hby d15_106) rfl) ?_
      refine own_go (fun _ => XS.istore X53.here hx rfl (hb hby d15_107) rfl (l' := #[.val (.ref q1), .val (.int s1), .val (.int (0 : Int32)), .val (.ref aa14), .val (.int ((nd40.toUInt32 >>> ((1 : Int32) &&& 31).toUInt32).toInt32))]) rfl) ?_
      refine own_go (fun _ => XS.goto X53.here hx rfl (pc0 := 109) (pc' := 76) rfl (hb hby d15_109) (by decide) (by decide)) ?_
      obtain ⟨nd55, e_nd55, b_nd55⟩ : ∃ z : Int32, z = ((nd40.toUInt32 >>> ((1 : Int32) &&& 31).toUInt32).toInt32) ∧ 0 ≤ z.toInt ∧ z.toInt < zN.toInt ∧ z.toInt < 4 := ⟨_, rfl, (have u := own_ush nd40 b_nd40.1; have q := b_nd40; show 0 ≤ _ ∧ _ ∧ _ from ⟨u.1, by omega, by omega⟩)⟩
      show ∃ t o, Steps p.tables e below (T53.setTop (mkF m 76 #[.val (.ref q1), .val (.int s1), .val (.int (0 : Int32)), .val (.ref aa14), .val (.int ((nd40.toUInt32 >>> ((1 : Int32) &&& 31).toUInt32).toInt32))] [])) t ∧ _
      rw [← e_nd55]
      have l_nd55 : nd55 < zN := own_ilt b_nd55.2.1
      show ∃ t o, Steps p.tables e below (T53.setTop (mkF m 76 #[.val (.ref q1), .val (.int s1), .val (.int (0 : Int32)), .val (.ref aa14), .val (.int nd55)] [])) t ∧ _
      refine own_go (fun _ => XS.iload X53.here hx rfl (hb hby d15_76) rfl) ?_
      show ∃ t o, Steps p.tables e below (T53.setTop (mkF m 78 #[.val (.ref q1), .val (.int s1), .val (.int (0 : Int32)), .val (.ref aa14), .val (.int nd55)] [(.int nd55)])) t ∧ _
      by_cases hc56 : (0 : Int32) < nd55
      · refine own_go (fun _ => XS.ifNo X53.here hx rfl (hb hby d15_78) rfl ((if0 _ _).trans (tlt hc56).2.2.2)) ?_
        refine own_go (fun _ => XS.aloadN X53.here hx rfl (hb hby d15_81) rfl rfl) ?_
        refine own_go (fun _ => XS.iload X53.here hx rfl (hb hby d15_82) rfl) ?_
        show ∃ t o, Steps p.tables e below (T53.setTop (mkF m 84 #[.val (.ref q1), .val (.int s1), .val (.int (0 : Int32)), .val (.ref aa14), .val (.int nd55)] [(.int nd55), (.ref q1)])) t ∧ _
        have F57 := (Exa.keep F42 Kp53)
        have ne58 : q1 ≠ wi := own_ne (by omega)
        have F59 := (Fld.keep F43 Kp53 (ninS ne58 nin0))
        have F60 := (Fld.keep F44 Kp53 (ninS ne58 nin0))
        have F61 := (Fld.keep F45 Kp53 (ninS ne58 nin0))
        have ne62 : fa ≠ wi := own_ne (by omega)
        have F63 := (Arv.keep F47 Kp53 (ninS ne62 nin0))
        have ne64 : fp ≠ wi := own_ne (by omega)
        have F65 := (Arv.keep V31 Kp53 (ninS ne64 nin0))
        have F66 := (Old.keep F51 Kp53 (allS ge54 all0))
        have zl67 : n0 ≤ T53.heap.size := by omega
        obtain ⟨cq68, q68, q68'⟩ := F57.cell
        obtain ⟨_, _, ⟨T68, L68, k68, n68⟩, -, X68, ⟨Lc68, hQ68, l68, y68, z68⟩, st68⟩ := X53.privateBack hx (y := (⟨"com/example/holdback/holdback/sim/EventQueue", "play", "(I)V"⟩ : MethodName)) hown (mvT hZ w_55) (mvT hZ w_56) (mvT hZ (own_selp (y := (⟨"com/example/holdback/holdback/sim/EventQueue", "play", "(I)V"⟩ : MethodName)) w_75 rfl w_57 w_56 (by decide))) (Cond.privateMethod_at (mvP hZ w_57 (args := #[]))) (mvT hZ w_58) (by decide) (backOf (W := 0) (rmPlay l Z a0 hw [] q1 fa fp wi kf kp kw ((ds.set (s1).toNatClampNeg (.double (9218868437227405312 : UInt64)))) ((ls.set (s1).toNatClampNeg (.long (9223372036854775807 : Int64)))) wl2_53 zN z2 nd55 T53.heap n0 zl67 F57 F59 F60 F61 F63 F65 G53_0 F66 Gs20 Gs30 H53_0 HN hc56 l_nd55 (by omega) (by omega) (by omega) (by omega)) hZ w_58 w_6 (by decide) (by decide)) (g := (mkF m 84 #[.val (.ref q1), .val (.int s1), .val (.int (0 : Int32)), .val (.ref aa14), .val (.int nd55)] [(.int nd55), (.ref q1)])) rfl (by rw [hml]; rfl) (Steps.refl _) (a := q1) q68 q68' (argsL := [(.int nd55)]) (rest := []) (lenOf pd__28I_29V rfl) rfl (by show 2 * 0 + _ ≤ _; exact Nat.le_of_eq rfl) (hb hby d15_84) (fun _ _ => ⟨rfl, rfl, (by decide : 0 + 0 ≤ _), (by decide : 0 + 0 ≤ _)⟩)
        dsimp only [Pt.U, Pt.locs, Pt.cells, Pt.slots] at X68 l68 y68 z68 st68 hQ68
        rw [l68, y68, z68] at X68
        obtain ⟨wl2_68, rfl, Nq68, Kp68, G68_0, H68_0⟩ := hQ68
        have N68 := Fr.app N53 Nq68
        refine own_goT st68 ?_
        have le_68 : T53.heap.size ≤ T68.heap.size := Kp68.1
        have K68 : Keep h0 T68.heap [fa, fp, wi] := Keep.trans K53 Kp68 (allS (Or.inl (List.mem_of_getElem? (i := 2) rfl)) all0)
        refine own_go (fun _ => XS.iloadN X68.here hx rfl (hb hby d15_87) rfl) ?_
        show ∃ t o, Steps p.tables e below (T68.setTop (mkF m 88 #[.val (.ref q1), .val (.int s1), .val (.int (0 : Int32)), .val (.ref aa14), .val (.int nd55)] [(.int (0 : Int32))])) t ∧ _
        refine own_go (fun _ => XS.ifYes X68.here hx rfl (pc0 := 88) (pc' := 103) rfl (hb hby d15_88) rfl ((if0 _ _).trans (teq (by decide : (0 : Int32) = (0 : Int32))).1) (by decide) (by decide)) ?_
        refine own_go (fun _ => XS.iload X68.here hx rfl (hb hby d15_103) rfl) ?_
        refine own_go (fun _ => XS.iconst X68.here hx rfl (hb hby d15_105)) ?_
        refine own_go (fun _ => XS.iushr X68.here hx rfl (hb hby d15_106) rfl) ?_
        refine own_go (fun _ => XS.istore X68.here hx rfl (hb hby d15_107) rfl (l' := #[.val (.ref q1), .val (.int s1), .val (.int (0 : Int32)), .val (.ref aa14), .val (.int ((nd55.toUInt32 >>> ((1 : Int32) &&& 31).toUInt32).toInt32))]) rfl) ?_
        refine own_go (fun _ => XS.goto X68.here hx rfl (pc0 := 109) (pc' := 76) rfl (hb hby d15_109) (by decide) (by decide)) ?_
        obtain ⟨nd69, e_nd69, b_nd69⟩ : ∃ z : Int32, z = ((nd55.toUInt32 >>> ((1 : Int32) &&& 31).toUInt32).toInt32) ∧ 0 ≤ z.toInt ∧ z.toInt < zN.toInt ∧ z.toInt < 2 := ⟨_, rfl, (have u := own_ush nd55 b_nd55.1; have q := b_nd55; show 0 ≤ _ ∧ _ ∧ _ from ⟨u.1, by omega, by omega⟩)⟩
        show ∃ t o, Steps p.tables e below (T68.setTop (mkF m 76 #[.val (.ref q1), .val (.int s1), .val (.int (0 : Int32)), .val (.ref aa14), .val (.int ((nd55.toUInt32 >>> ((1 : Int32) &&& 31).toUInt32).toInt32))] [])) t ∧ _
        rw [← e_nd69]
        have l_nd69 : nd69 < zN := own_ilt b_nd69.2.1
        show ∃ t o, Steps p.tables e below (T68.setTop (mkF m 76 #[.val (.ref q1), .val (.int s1), .val (.int (0 : Int32)), .val (.ref aa14), .val (.int nd69)] [])) t ∧ _
        refine own_go (fun _ => XS.iload X68.here hx rfl (hb hby d15_76) rfl) ?_
        show ∃ t o, Steps p.tables e below (T68.setTop (mkF m 78 #[.val (.ref q1), .val (.int s1), .val (.int (0 : Int32)), .val (.ref aa14), .val (.int nd69)] [(.int nd69)])) t ∧ _
        by_cases hc70 : (0 : Int32) < nd69
        · refine own_go (fun _ => XS.ifNo X68.here hx rfl (hb hby d15_78) rfl ((if0 _ _).trans (tlt hc70).2.2.2)) ?_
          refine own_go (fun _ => XS.aloadN X68.here hx rfl (hb hby d15_81) rfl rfl) ?_
          refine own_go (fun _ => XS.iload X68.here hx rfl (hb hby d15_82) rfl) ?_
          show ∃ t o, Steps p.tables e below (T68.setTop (mkF m 84 #[.val (.ref q1), .val (.int s1), .val (.int (0 : Int32)), .val (.ref aa14), .val (.int nd69)] [(.int nd69), (.ref q1)])) t ∧ _
          have F71 := (Exa.keep F57 Kp68)
          have F72 := (Fld.keep F59 Kp68 (ninS ne58 nin0))
          have F73 := (Fld.keep F60 Kp68 (ninS ne58 nin0))
          have F74 := (Fld.keep F61 Kp68 (ninS ne58 nin0))
          have F75 := (Arv.keep F63 Kp68 (ninS ne62 nin0))
          have F76 := (Arv.keep F65 Kp68 (ninS ne64 nin0))
          have F77 := (Old.keep F66 Kp68 (allS ge54 all0))
          have zl78 : n0 ≤ T68.heap.size := by omega
          obtain ⟨cq79, q79, q79'⟩ := F71.cell
          obtain ⟨_, _, ⟨T79, L79, k79, n79⟩, -, X79, ⟨Lc79, hQ79, l79, y79, z79⟩, st79⟩ := X68.privateBack hx (y := (⟨"com/example/holdback/holdback/sim/EventQueue", "play", "(I)V"⟩ : MethodName)) hown (mvT hZ w_55) (mvT hZ w_56) (mvT hZ (own_selp (y := (⟨"com/example/holdback/holdback/sim/EventQueue", "play", "(I)V"⟩ : MethodName)) w_75 rfl w_57 w_56 (by decide))) (Cond.privateMethod_at (mvP hZ w_57 (args := #[]))) (mvT hZ w_58) (by decide) (backOf (W := 0) (rmPlay l Z a0 hw [] q1 fa fp wi kf kp kw ((ds.set (s1).toNatClampNeg (.double (9218868437227405312 : UInt64)))) ((ls.set (s1).toNatClampNeg (.long (9223372036854775807 : Int64)))) wl2_68 zN z2 nd69 T68.heap n0 zl78 F71 F72 F73 F74 F75 F76 G68_0 F77 Gs20 Gs30 H68_0 HN hc70 l_nd69 (by omega) (by omega) (by omega) (by omega)) hZ w_58 w_6 (by decide) (by decide)) (g := (mkF m 84 #[.val (.ref q1), .val (.int s1), .val (.int (0 : Int32)), .val (.ref aa14), .val (.int nd69)] [(.int nd69), (.ref q1)])) rfl (by rw [hml]; rfl) (Steps.refl _) (a := q1) q79 q79' (argsL := [(.int nd69)]) (rest := []) (lenOf pd__28I_29V rfl) rfl (by show 2 * 0 + _ ≤ _; exact Nat.le_of_eq rfl) (hb hby d15_84) (fun _ _ => ⟨rfl, rfl, (by decide : 0 + 0 ≤ _), (by decide : 0 + 0 ≤ _)⟩)
          dsimp only [Pt.U, Pt.locs, Pt.cells, Pt.slots] at X79 l79 y79 z79 st79 hQ79
          rw [l79, y79, z79] at X79
          obtain ⟨wl2_79, rfl, Nq79, Kp79, G79_0, H79_0⟩ := hQ79
          have N79 := Fr.app N68 Nq79
          refine own_goT st79 ?_
          have le_79 : T68.heap.size ≤ T79.heap.size := Kp79.1
          have K79 : Keep h0 T79.heap [fa, fp, wi] := Keep.trans K68 Kp79 (allS (Or.inl (List.mem_of_getElem? (i := 2) rfl)) all0)
          refine own_go (fun _ => XS.iloadN X79.here hx rfl (hb hby d15_87) rfl) ?_
          show ∃ t o, Steps p.tables e below (T79.setTop (mkF m 88 #[.val (.ref q1), .val (.int s1), .val (.int (0 : Int32)), .val (.ref aa14), .val (.int nd69)] [(.int (0 : Int32))])) t ∧ _
          refine own_go (fun _ => XS.ifYes X79.here hx rfl (pc0 := 88) (pc' := 103) rfl (hb hby d15_88) rfl ((if0 _ _).trans (teq (by decide : (0 : Int32) = (0 : Int32))).1) (by decide) (by decide)) ?_
          refine own_go (fun _ => XS.iload X79.here hx rfl (hb hby d15_103) rfl) ?_
          refine own_go (fun _ => XS.iconst X79.here hx rfl (hb hby d15_105)) ?_
          refine own_go (fun _ => XS.iushr X79.here hx rfl (hb hby d15_106) rfl) ?_
          refine own_go (fun _ => XS.istore X79.here hx rfl (hb hby d15_107) rfl (l' := #[.val (.ref q1), .val (.int s1), .val (.int (0 : Int32)), .val (.ref aa14), .val (.int ((nd69.toUInt32 >>> ((1 : Int32) &&& 31).toUInt32).toInt32))]) rfl) ?_
          refine own_go (fun _ => XS.goto X79.here hx rfl (pc0 := 109) (pc' := 76) rfl (hb hby d15_109) (by decide) (by decide)) ?_
          obtain ⟨nd80, e_nd80, b_nd80⟩ : ∃ z : Int32, z = ((nd69.toUInt32 >>> ((1 : Int32) &&& 31).toUInt32).toInt32) ∧ 0 ≤ z.toInt ∧ z.toInt < zN.toInt ∧ z.toInt < 1 := ⟨_, rfl, (have u := own_ush nd69 b_nd69.1; have q := b_nd69; show 0 ≤ _ ∧ _ ∧ _ from ⟨u.1, by omega, by omega⟩)⟩
          show ∃ t o, Steps p.tables e below (T79.setTop (mkF m 76 #[.val (.ref q1), .val (.int s1), .val (.int (0 : Int32)), .val (.ref aa14), .val (.int ((nd69.toUInt32 >>> ((1 : Int32) &&& 31).toUInt32).toInt32))] [])) t ∧ _
          rw [← e_nd80]
          have l_nd80 : nd80 < zN := own_ilt b_nd80.2.1
          show ∃ t o, Steps p.tables e below (T79.setTop (mkF m 76 #[.val (.ref q1), .val (.int s1), .val (.int (0 : Int32)), .val (.ref aa14), .val (.int nd80)] [])) t ∧ _
          refine own_go (fun _ => XS.iload X79.here hx rfl (hb hby d15_76) rfl) ?_
          show ∃ t o, Steps p.tables e below (T79.setTop (mkF m 78 #[.val (.ref q1), .val (.int s1), .val (.int (0 : Int32)), .val (.ref aa14), .val (.int nd80)] [(.int nd80)])) t ∧ _
          have hd81 : ¬ ((0 : Int32) < nd80) := (fun q => by rw [Int32.lt_iff_toInt_lt] at q; have := b_nd80; have e0 : (0 : Int32).toInt = 0 := rfl; omega)
          refine own_go (fun _ => XS.ifYes X79.here hx rfl (pc0 := 78) (pc' := 112) rfl (hb hby d15_78) rfl ((if0 _ _).trans (flt hd81).2.2.2) (by decide) (by decide)) ?_
          show ∃ t o, Steps p.tables e below (T79.setTop (mkF m 112 #[.val (.ref q1), .val (.int s1), .val (.int (0 : Int32)), .val (.ref aa14), .val (.int nd80)] [])) t ∧ _
          have F82 := (Arv.keep F75 Kp79 (ninS ne62 nin0))
          have F83 := (Arv.keep F76 Kp79 (ninS ne64 nin0))
          obtain ⟨fs, hr, hrun, hended, hW, hsame⟩ := X79.leave (v := none) (fun _ => rfl)
          refine ⟨_, _, ?_, hrun, hended, _, _, rfl, ?_, ⟨_, rfl⟩, hW, hsame.mono (by decide) (by decide)⟩
          · exact X79.returnOut hx Bd.returns (hb hby d15_112) hr
          · show Q_rmFC0 Z _ _ _ _ _ _ _ _ _ _ _ _ _ _ _ _ _ _ _ h0 n0 _ T79.heap _
            exact ⟨(ds.set (s1).toNatClampNeg (.double (9218868437227405312 : UInt64))), (ls.set (s1).toNatClampNeg (.long (9223372036854775807 : Int64))), wl2_79, rfl, N79, K79, F82, F83, G79_0, Gs20, Gs30, H79_0⟩
        · refine own_go (fun _ => XS.ifYes X68.here hx rfl (pc0 := 78) (pc' := 112) rfl (hb hby d15_78) rfl ((if0 _ _).trans (flt hc70).2.2.2) (by decide) (by decide)) ?_
          show ∃ t o, Steps p.tables e below (T68.setTop (mkF m 112 #[.val (.ref q1), .val (.int s1), .val (.int (0 : Int32)), .val (.ref aa14), .val (.int nd69)] [])) t ∧ _
          have F84 := (Arv.keep F63 Kp68 (ninS ne62 nin0))
          have F85 := (Arv.keep F65 Kp68 (ninS ne64 nin0))
          obtain ⟨fs, hr, hrun, hended, hW, hsame⟩ := X68.leave (v := none) (fun _ => rfl)
          refine ⟨_, _, ?_, hrun, hended, _, _, rfl, ?_, ⟨_, rfl⟩, hW, hsame.mono (by decide) (by decide)⟩
          · exact X68.returnOut hx Bd.returns (hb hby d15_112) hr
          · show Q_rmFC0 Z _ _ _ _ _ _ _ _ _ _ _ _ _ _ _ _ _ _ _ h0 n0 _ T68.heap _
            exact ⟨(ds.set (s1).toNatClampNeg (.double (9218868437227405312 : UInt64))), (ls.set (s1).toNatClampNeg (.long (9223372036854775807 : Int64))), wl2_68, rfl, N68, K68, F84, F85, G68_0, Gs20, Gs30, H68_0⟩
      · refine own_go (fun _ => XS.ifYes X53.here hx rfl (pc0 := 78) (pc' := 112) rfl (hb hby d15_78) rfl ((if0 _ _).trans (flt hc56).2.2.2) (by decide) (by decide)) ?_
        show ∃ t o, Steps p.tables e below (T53.setTop (mkF m 112 #[.val (.ref q1), .val (.int s1), .val (.int (0 : Int32)), .val (.ref aa14), .val (.int nd55)] [])) t ∧ _
        have ne86 : fa ≠ wi := own_ne (by omega)
        have F87 := (Arv.keep F47 Kp53 (ninS ne86 nin0))
        have ne88 : fp ≠ wi := own_ne (by omega)
        have F89 := (Arv.keep V31 Kp53 (ninS ne88 nin0))
        obtain ⟨fs, hr, hrun, hended, hW, hsame⟩ := X53.leave (v := none) (fun _ => rfl)
        refine ⟨_, _, ?_, hrun, hended, _, _, rfl, ?_, ⟨_, rfl⟩, hW, hsame.mono (by decide) (by decide)⟩
        · exact X53.returnOut hx Bd.returns (hb hby d15_112) hr
        · show Q_rmFC0 Z _ _ _ _ _ _ _ _ _ _ _ _ _ _ _ _ _ _ _ h0 n0 _ T53.heap _
          exact ⟨(ds.set (s1).toNatClampNeg (.double (9218868437227405312 : UInt64))), (ls.set (s1).toNatClampNeg (.long (9223372036854775807 : Int64))), wl2_53, rfl, N53, K53, F87, F89, G53_0, Gs20, Gs30, H53_0⟩
    · refine own_go (fun _ => XS.ifYes X35.here hx rfl (pc0 := 78) (pc' := 112) rfl (hb hby d15_78) rfl ((if0 _ _).trans (flt hc41).2.2.2) (by decide) (by decide)) ?_
      show ∃ t o, Steps p.tables e below (T35.setTop (mkF m 112 #[.val (.ref q1), .val (.int s1), .val (.int (0 : Int32)), .val (.ref aa14), .val (.int nd40)] [])) t ∧ _
      have ne90 : fa ≠ fp := own_ne (by omega)
      have F91 := (Arv.other V21 W31 ne90)
      have ne92 : wi ≠ fa := own_ne (by omega)
      have ne93 : wi ≠ fp := own_ne (by omega)
      have F94 := (Arv.other (Arv.other P7 W21 ne92) W31 ne93)
      obtain ⟨fs, hr, hrun, hended, hW, hsame⟩ := X35.leave (v := none) (fun _ => rfl)
      refine ⟨_, _, ?_, hrun, hended, _, _, rfl, ?_, ⟨_, rfl⟩, hW, hsame.mono (by decide) (by decide)⟩
      · exact X35.returnOut hx Bd.returns (hb hby d15_112) hr
      · show Q_rmFC0 Z _ _ _ _ _ _ _ _ _ _ _ _ _ _ _ _ _ _ _ h0 n0 _ T35.heap _
        rw [e35]
        exact ⟨(ds.set (s1).toNatClampNeg (.double (9218868437227405312 : UInt64))), (ls.set (s1).toNatClampNeg (.long (9223372036854775807 : Int64))), wl, rfl, N31, K31, F91, V31, F94, Gs20, Gs30, GW⟩
  · refine own_go (fun _ => XS.ifYes X15.here hx rfl (pc0 := 11) (pc' := 35) rfl (hb hby d15_11) rfl ((if0 _ _).trans (feq hc16).2) (by decide) (by decide)) ?_
    refine own_go (fun _ => XS.aloadN X15.here hx rfl (hb hby d15_35) rfl rfl) ?_
    obtain ⟨T95, X95, e95, st95⟩ := getF X15 hx hZ hown (host := "") (Or.inl w_30) Via.refl e15 P2 (g := (mkF m 36 #[.val (.ref q1), .val (.int s1), .val (.int (0 : Int32)), .val (.ref aa14), .unset] [(.ref q1)])) rfl rfl (hb hby d15_36)
    refine own_go st95 ?_
    refine own_go (fun _ => XS.iloadN X95.here hx rfl (hb hby d15_39) rfl) ?_
    refine own_go (fun _ => XS.aloadN X95.here hx rfl (hb hby d15_40) rfl rfl) ?_
    obtain ⟨T96, X96, e96, st96⟩ := own_getR X95 hx hZ hown (hw _ (List.mem_of_getElem? (i := 103) rfl)) e95 SF1_14 (g := (mkF m 41 #[.val (.ref q1), .val (.int s1), .val (.int (0 : Int32)), .val (.ref aa14), .unset] [(.ref aa14), (.int s1), (.ref fa)])) rfl rfl (hb hby d15_41)
    refine own_go st96 ?_
    refine own_go (fun _ => XS.aloadN X96.here hx rfl (hb hby d15_44) rfl rfl) ?_
    obtain ⟨T97, X97, e97, st97⟩ := own_getR X96 hx hZ hown w_104 e96 SF4_14 (g := (mkF m 45 #[.val (.ref q1), .val (.int s1), .val (.int (0 : Int32)), .val (.ref aa14), .unset] [(.ref aa14), (.ref am_14), (.int s1), (.ref fa)])) rfl rfl (hb hby d15_45)
    refine own_go st97 ?_
    show ∃ t o, Steps p.tables e below (T97.setTop (mkF m 48 #[.val (.ref q1), .val (.int s1), .val (.int (0 : Int32)), .val (.ref aa14), .unset] [(.int f1_14), (.ref am_14), (.int s1), (.ref fa)])) t ∧ _
    have ib99 : ¬ f1_14 < 0 ∧ f1_14 < (8 : Int32) := SB1_14
    obtain ⟨dd100, hd100, nn100⟩ := SG1_14.at ib99
    obtain ⟨cl98, Ar98, q98, S98, N98, H98, G98⟩ := id SA1_14
    have hin98 : ¬ (f1_14 < 0 ∨ cl98.slots.size ≤ (f1_14).toNatClampNeg) := inb_of S98 ib99
    have hat98 : cl98.slots[(f1_14).toNatClampNeg]? = some (.double dd100) := Has.at H98 hin98 hd100
    refine own_go (fun _ => X97.daload hx (j := f1_14) (v := (.double dd100)) (by rw [e97]; exact Ar98.1) (State.isArrayOf_alike hZ.alike Ar98.2.1) Ar98.2.2 hin98 hat98 (g := (mkF m 48 #[.val (.ref q1), .val (.int s1), .val (.int (0 : Int32)), .val (.ref aa14), .unset] [(.int f1_14), (.ref am_14), (.int s1), (.ref fa)])) rfl rfl (hb hby d15_48) _) ?_
    obtain ⟨cl101, Ar101, q101, S101, N101, H101, G101⟩ := id P5
    have ib102 : ¬ s1 < 0 ∧ s1 < zN := hs
    have Gs103 : own_G own_pd (.double (0 : UInt64)) zN (ds.set (s1).toNatClampNeg (.double dd100)) := own_G.set GD _ ⟨_, rfl, nn100⟩
    have hin101 : ¬ (s1 < 0 ∨ cl101.slots.size ≤ (s1).toNatClampNeg) := inb_of S101 ib102
    obtain ⟨T104, h104, X104, e104, W104, st104⟩ := stD X97 hx hZ e97 Ar101 (j := s1) hin101 (g := (mkF m 49 #[.val (.ref q1), .val (.int s1), .val (.int (0 : Int32)), .val (.ref aa14), .unset] [(.double dd100), (.int s1), (.ref fa)])) rfl rfl (hb hby d15_49)
    refine own_go st104 ?_
    have ge105 : n0 ≤ fa := by omega
    have le_104 : h0.size ≤ h104.size := Nat.le_of_eq W104.size.symm
    have K104 : Keep h0 h104 [fa, fp, wi] := Keep.wr (Keep.refl h0 [fa, fp, wi]) W104 (Or.inl (List.mem_of_getElem? (i := 0) rfl))
    have N104 := Fr.snoc X104 N0 ge105
    have V104 : Arv Z h104 fa kf .double zN (ds.set (s1).toNatClampNeg (.double dd100)) (.double (0 : UInt64)) := Arv.set Ar101 q101 S101 N101 H101 G101 rfl W104 (s1).toNatClampNeg rfl (GD.len ib102)
    refine own_go (fun _ => XS.aloadN X104.here hx rfl (hb hby d15_50) rfl rfl) ?_
    have ne106 : q1 ≠ fa := own_ne (by omega)
    have F107 := (Fld.other W104 P3 (Or.inl ne106))
    obtain ⟨T108, X108, e108, st108⟩ := getF X104 hx hZ hown (host := "") (Or.inl w_33) Via.refl e104 F107 (g := (mkF m 51 #[.val (.ref q1), .val (.int s1), .val (.int (0 : Int32)), .val (.ref aa14), .unset] [(.ref q1)])) rfl rfl (hb hby d15_51)
    refine own_go st108 ?_
    refine own_go (fun _ => XS.iloadN X108.here hx rfl (hb hby d15_54) rfl) ?_
    refine own_go (fun _ => XS.aloadN X108.here hx rfl (hb hby d15_55) rfl rfl) ?_
    have ne109 : aa14 ≠ fa := own_ne (by omega)
    have F110 := (Fld.other W104 SF2_14 (Or.inl ne109))
    obtain ⟨T111, X111, e111, st111⟩ := own_getR X108 hx hZ hown (hw _ (List.mem_of_getElem? (i := 105) rfl)) e108 F110 (g := (mkF m 56 #[.val (.ref q1), .val (.int s1), .val (.int (0 : Int32)), .val (.ref aa14), .unset] [(.ref aa14), (.int s1), (.ref fp)])) rfl rfl (hb hby d15_56)
    refine own_go st111 ?_
    refine own_go (fun _ => XS.aloadN X111.here hx rfl (hb hby d15_59) rfl rfl) ?_
    show ∃ t o, Steps p.tables e below (T111.setTop (mkF m 60 #[.val (.ref q1), .val (.int s1), .val (.int (0 : Int32)), .val (.ref aa14), .unset] [(.ref aa14), (.ref ap_14), (.int s1), (.ref fp)])) t ∧ _
    have F112 := (Fld.other W104 SF4_14 (Or.inl ne109))
    obtain ⟨T113, X113, e113, st113⟩ := own_getR X111 hx hZ hown w_104 e111 F112 (g := (mkF m 60 #[.val (.ref q1), .val (.int s1), .val (.int (0 : Int32)), .val (.ref aa14), .unset] [(.ref aa14), (.ref ap_14), (.int s1), (.ref fp)])) rfl rfl (hb hby d15_60)
    refine own_go st113 ?_
    have ne114 : ap_14 ≠ fa := own_ne (by omega)
    have F115 := (Arv.other SA2_14 W104 ne114)
    have ib117 : ¬ f1_14 < 0 ∧ f1_14 < (8 : Int32) := SB1_14
    obtain ⟨jj118, hd118⟩ := SG2_14.at ib117
    obtain ⟨cl116, Ar116, q116, S116, N116, H116, G116⟩ := id F115
    have hin116 : ¬ (f1_14 < 0 ∨ cl116.slots.size ≤ (f1_14).toNatClampNeg) := inb_of S116 ib117
    have hat116 : cl116.slots[(f1_14).toNatClampNeg]? = some (.long jj118) := Has.at H116 hin116 hd118
    refine own_go (fun _ => X113.laload hx (j := f1_14) (v := (.long jj118)) (by rw [e113]; exact Ar116.1) (State.isArrayOf_alike hZ.alike Ar116.2.1) Ar116.2.2 hin116 hat116 (g := (mkF m 63 #[.val (.ref q1), .val (.int s1), .val (.int (0 : Int32)), .val (.ref aa14), .unset] [(.int f1_14), (.ref ap_14), (.int s1), (.ref fp)])) rfl rfl (hb hby d15_63) _) ?_
    have ne119 : fp ≠ fa := own_ne (by omega)
    have F120 := (Arv.other P6 W104 ne119)
    obtain ⟨cl121, Ar121, q121, S121, N121, H121, G121⟩ := id F120
    have ib122 : ¬ s1 < 0 ∧ s1 < zN := hs
    have Gs123 : own_G own_pj (.long (0 : Int64)) zN (ls.set (s1).toNatClampNeg (.long jj118)) := own_G.set GJ _ ⟨_, rfl⟩
    have hin121 : ¬ (s1 < 0 ∨ cl121.slots.size ≤ (s1).toNatClampNeg) := inb_of S121 ib122
    obtain ⟨T124, h124, X124, e124, W124, st124⟩ := stJ X113 hx hZ e113 Ar121 (j := s1) hin121 (g := (mkF m 64 #[.val (.ref q1), .val (.int s1), .val (.int (0 : Int32)), .val (.ref aa14), .unset] [(.long jj118), (.int s1), (.ref fp)])) rfl rfl (hb hby d15_64)
    refine own_go st124 ?_
    have ge125 : n0 ≤ fp := by omega
    have le_124 : h104.size ≤ h124.size := Nat.le_of_eq W124.size.symm
    have K124 : Keep h0 h124 [fa, fp, wi] := Keep.wr K104 W124 (Or.inl (List.mem_of_getElem? (i := 1) rfl))
    have N124 := Fr.snoc X124 N104 ge125
    have V124 : Arv Z h124 fp kp .long zN (ls.set (s1).toNatClampNeg (.long jj118)) (.long (0 : Int64)) := Arv.set Ar121 q121 S121 N121 H121 G121 rfl W124 (s1).toNatClampNeg rfl (GJ.len ib122)
    refine own_go (fun _ => XS.aloadN X124.here hx rfl (hb hby d15_65) rfl rfl) ?_
    have ne126 : q1 ≠ fp := own_ne (by omega)
    have F127 := (Fld.other W124 (Fld.other W104 P8 (Or.inl ne106)) (Or.inl ne126))
    obtain ⟨T128, X128, e128, st128⟩ := getF X124 hx hZ hown (host := "") (Or.inl w_27) Via.refl e124 F127 (g := (mkF m 66 #[.val (.ref q1), .val (.int s1), .val (.int (0 : Int32)), .val (.ref aa14), .unset] [(.ref q1)])) rfl rfl (hb hby d15_66)
    refine own_go st128 ?_
    have ne129 : ss ≠ fa := own_ne (by omega)
    have ne130 : ss ≠ fp := own_ne (by omega)
    have F131 := (Arv.other (Arv.other P9 W104 ne129) W124 ne130)
    obtain ⟨cl132, Ar132, q132, S132, N132, H132, G132⟩ := id F131
    have ln132 : cl132.slots.size.toInt32 = zN := len_of S132 N132
    have al132 := X128.arraylength hx (by rw [e128]; exact Ar132.1) (State.isArrayOf_alike hZ.alike Ar132.2.1) (g := (mkF m 69 #[.val (.ref q1), .val (.int s1), .val (.int (0 : Int32)), .val (.ref aa14), .unset] [(.ref ss)])) rfl rfl (hb hby d15_69)
    rw [ln132] at al132
    refine own_go al132 ?_
    refine own_go (fun _ => XS.iloadN X128.here hx rfl (hb hby d15_70) rfl) ?_
    refine own_go (fun _ => XS.iadd X128.here hx rfl (hb hby d15_71) rfl) ?_
    show ∃ t o, Steps p.tables e below (T128.setTop (mkF m 72 #[.val (.ref q1), .val (.int s1), .val (.int (0 : Int32)), .val (.ref aa14), .unset] [(.int (zN + s1))])) t ∧ _
    refine own_go (fun _ => XS.iconst X128.here hx rfl (hb hby d15_72)) ?_
    refine own_go (fun _ => XS.iushr X128.here hx rfl (hb hby d15_73) rfl) ?_
    refine own_go (fun _ => XS.istore X128.here hx rfl (hb hby d15_74) rfl (l' := #[.val (.ref q1), .val (.int s1), .val (.int (0 : Int32)), .val (.ref aa14), .val (.int (((zN + s1).toUInt32 >>> ((1 : Int32) &&& 31).toUInt32).toInt32))]) rfl) ?_
    obtain ⟨nd133, e_nd133, b_nd133⟩ : ∃ z : Int32, z = (((zN + s1).toUInt32 >>> ((1 : Int32) &&& 31).toUInt32).toInt32) ∧ 0 ≤ z.toInt ∧ z.toInt < zN.toInt ∧ z.toInt < 8 := ⟨_, rfl, (have u := own_nd0 HN hs; have q := HN.int; show 0 ≤ _ ∧ _ ∧ _ from ⟨u.1, u.2, by omega⟩)⟩
    show ∃ t o, Steps p.tables e below (T128.setTop (mkF m 76 #[.val (.ref q1), .val (.int s1), .val (.int (0 : Int32)), .val (.ref aa14), .val (.int (((zN + s1).toUInt32 >>> ((1 : Int32) &&& 31).toUInt32).toInt32))] [])) t ∧ _
    rw [← e_nd133]
    have l_nd133 : nd133 < zN := own_ilt b_nd133.2.1
    show ∃ t o, Steps p.tables e below (T128.setTop (mkF m 76 #[.val (.ref q1), .val (.int s1), .val (.int (0 : Int32)), .val (.ref aa14), .val (.int nd133)] [])) t ∧ _
    refine own_go (fun _ => XS.iload X128.here hx rfl (hb hby d15_76) rfl) ?_
    show ∃ t o, Steps p.tables e below (T128.setTop (mkF m 78 #[.val (.ref q1), .val (.int s1), .val (.int (0 : Int32)), .val (.ref aa14), .val (.int nd133)] [(.int nd133)])) t ∧ _
    by_cases hc134 : (0 : Int32) < nd133
    · refine own_go (fun _ => XS.ifNo X128.here hx rfl (hb hby d15_78) rfl ((if0 _ _).trans (tlt hc134).2.2.2)) ?_
      refine own_go (fun _ => XS.aloadN X128.here hx rfl (hb hby d15_81) rfl rfl) ?_
      refine own_go (fun _ => XS.iload X128.here hx rfl (hb hby d15_82) rfl) ?_
      show ∃ t o, Steps p.tables e below (T128.setTop (mkF m 84 #[.val (.ref q1), .val (.int s1), .val (.int (0 : Int32)), .val (.ref aa14), .val (.int nd133)] [(.int nd133), (.ref q1)])) t ∧ _
      have F135 := (Exa.wr W124 (Exa.wr W104 P1))
      have F136 := (Fld.other W124 (Fld.other W104 P2 (Or.inl ne106)) (Or.inl ne126))
      have F137 := (Fld.other W124 F107 (Or.inl ne126))
      have F138 := (Fld.other W124 (Fld.other W104 P4 (Or.inl ne106)) (Or.inl ne126))
      have ne139 : fa ≠ fp := own_ne (by omega)
      have F140 := (Arv.other V104 W124 ne139)
      have ne141 : wi ≠ fa := own_ne (by omega)
      have ne142 : wi ≠ fp := own_ne (by omega)
      have F143 := (Arv.other (Arv.other P7 W104 ne141) W124 ne142)
      have F144 := (Old.wr (Old.wr OLD W104 ge105) W124 ge125)
      have zl145 : n0 ≤ h124.size := by omega
      obtain ⟨cq146, q146, q146'⟩ := F135.cell
      obtain ⟨_, _, ⟨T146, L146, k146, n146⟩, -, X146, ⟨Lc146, hQ146, l146, y146, z146⟩, st146⟩ := X128.privateBack hx (y := (⟨"com/example/holdback/holdback/sim/EventQueue", "play", "(I)V"⟩ : MethodName)) hown (mvT hZ w_55) (mvT hZ w_56) (mvT hZ (own_selp (y := (⟨"com/example/holdback/holdback/sim/EventQueue", "play", "(I)V"⟩ : MethodName)) w_75 rfl w_57 w_56 (by decide))) (Cond.privateMethod_at (mvP hZ w_57 (args := #[]))) (mvT hZ w_58) (by decide) (backOf (W := 0) (rmPlay l Z a0 hw [] q1 fa fp wi kf kp kw ((ds.set (s1).toNatClampNeg (.double dd100))) ((ls.set (s1).toNatClampNeg (.long jj118))) wl zN z2 nd133 h124 n0 zl145 F135 F136 F137 F138 F140 V124 F143 F144 Gs103 Gs123 GW HN hc134 l_nd133 (by omega) (by omega) (by omega) (by omega)) hZ w_58 w_6 (by decide) (by decide)) (g := (mkF m 84 #[.val (.ref q1), .val (.int s1), .val (.int (0 : Int32)), .val (.ref aa14), .val (.int nd133)] [(.int nd133), (.ref q1)])) rfl (by rw [hml]; rfl) (Steps.refl _) (a := q1) (by rw [e128]; exact q146) q146' (argsL := [(.int nd133)]) (rest := []) (lenOf pd__28I_29V rfl) rfl (by show 2 * 0 + _ ≤ _; exact Nat.le_of_eq rfl) (hb hby d15_84) (fun _ _ => ⟨rfl, e128, (by decide : 0 + 0 ≤ _), (by decide : 0 + 0 ≤ _)⟩)
      dsimp only [Pt.U, Pt.locs, Pt.cells, Pt.slots] at X146 l146 y146 z146 st146 hQ146
      rw [l146, y146, z146] at X146
      obtain ⟨wl2_146, rfl, Nq146, Kp146, G146_0, H146_0⟩ := hQ146
      have N146 := Fr.app N124 Nq146
      refine own_goT st146 ?_
      have le_146 : h124.size ≤ T146.heap.size := Kp146.1
      have ge147 : n0 ≤ wi := by omega
      have K146 : Keep h0 T146.heap [fa, fp, wi] := Keep.trans K124 Kp146 (allS (Or.inl (List.mem_of_getElem? (i := 2) rfl)) all0)
      refine own_go (fun _ => XS.iloadN X146.here hx rfl (hb hby d15_87) rfl) ?_
      show ∃ t o, Steps p.tables e below (T146.setTop (mkF m 88 #[.val (.ref q1), .val (.int s1), .val (.int (0 : Int32)), .val (.ref aa14), .val (.int nd133)] [(.int (0 : Int32))])) t ∧ _
      refine own_go (fun _ => XS.ifYes X146.here hx rfl (pc0 := 88) (pc' := 103) rfl (hb hby d15_88) rfl ((if0 _ _).trans (teq (by decide : (0 : Int32) = (0 : Int32))).1) (by decide) (by decide)) ?_
      refine own_go (fun _ => XS.iload X146.here hx rfl (hb hby d15_103) rfl) ?_
      refine own_go (fun _ => XS.iconst X146.here hx rfl (hb hby d15_105)) ?_
      refine own_go (fun _ => XS.iushr X146.here hx rfl (hb hby d15_106) rfl) ?_
      refine own_go (fun _ => XS.istore X146.here hx rfl (hb hby d15_107) rfl (l' := #[.val (.ref q1), .val (.int s1), .val (.int (0 : Int32)), .val (.ref aa14), .val (.int ((nd133.toUInt32 >>> ((1 : Int32) &&& 31).toUInt32).toInt32))]) rfl) ?_
      refine own_go (fun _ => XS.goto X146.here hx rfl (pc0 := 109) (pc' := 76) rfl (hb hby d15_109) (by decide) (by decide)) ?_
      obtain ⟨nd148, e_nd148, b_nd148⟩ : ∃ z : Int32, z = ((nd133.toUInt32 >>> ((1 : Int32) &&& 31).toUInt32).toInt32) ∧ 0 ≤ z.toInt ∧ z.toInt < zN.toInt ∧ z.toInt < 4 := ⟨_, rfl, (have u := own_ush nd133 b_nd133.1; have q := b_nd133; show 0 ≤ _ ∧ _ ∧ _ from ⟨u.1, by omega, by omega⟩)⟩
      show ∃ t o, Steps p.tables e below (T146.setTop (mkF m 76 #[.val (.ref q1), .val (.int s1), .val (.int (0 : Int32)), .val (.ref aa14), .val (.int ((nd133.toUInt32 >>> ((1 : Int32) &&& 31).toUInt32).toInt32))] [])) t ∧ _
      rw [← e_nd148]
      have l_nd148 : nd148 < zN := own_ilt b_nd148.2.1
      show ∃ t o, Steps p.tables e below (T146.setTop (mkF m 76 #[.val (.ref q1), .val (.int s1), .val (.int (0 : Int32)), .val (.ref aa14), .val (.int nd148)] [])) t ∧ _
      refine own_go (fun _ => XS.iload X146.here hx rfl (hb hby d15_76) rfl) ?_
      show ∃ t o, Steps p.tables e below (T146.setTop (mkF m 78 #[.val (.ref q1), .val (.int s1), .val (.int (0 : Int32)), .val (.ref aa14), .val (.int nd148)] [(.int nd148)])) t ∧ _
      by_cases hc149 : (0 : Int32) < nd148
      · refine own_go (fun _ => XS.ifNo X146.here hx rfl (hb hby d15_78) rfl ((if0 _ _).trans (tlt hc149).2.2.2)) ?_
        refine own_go (fun _ => XS.aloadN X146.here hx rfl (hb hby d15_81) rfl rfl) ?_
        refine own_go (fun _ => XS.iload X146.here hx rfl (hb hby d15_82) rfl) ?_
        show ∃ t o, Steps p.tables e below (T146.setTop (mkF m 84 #[.val (.ref q1), .val (.int s1), .val (.int (0 : Int32)), .val (.ref aa14), .val (.int nd148)] [(.int nd148), (.ref q1)])) t ∧ _
        have F150 := (Exa.keep F135 Kp146)
        have ne151 : q1 ≠ wi := own_ne (by omega)
        have F152 := (Fld.keep F136 Kp146 (ninS ne151 nin0))
        have F153 := (Fld.keep F137 Kp146 (ninS ne151 nin0))
        have F154 := (Fld.keep F138 Kp146 (ninS ne151 nin0))
        have ne155 : fa ≠ wi := own_ne (by omega)
        have F156 := (Arv.keep F140 Kp146 (ninS ne155 nin0))
        have ne157 : fp ≠ wi := own_ne (by omega)
        have F158 := (Arv.keep V124 Kp146 (ninS ne157 nin0))
        have F159 := (Old.keep F144 Kp146 (allS ge147 all0))
        have zl160 : n0 ≤ T146.heap.size := by omega
        obtain ⟨cq161, q161, q161'⟩ := F150.cell
        obtain ⟨_, _, ⟨T161, L161, k161, n161⟩, -, X161, ⟨Lc161, hQ161, l161, y161, z161⟩, st161⟩ := X146.privateBack hx (y := (⟨"com/example/holdback/holdback/sim/EventQueue", "play", "(I)V"⟩ : MethodName)) hown (mvT hZ w_55) (mvT hZ w_56) (mvT hZ (own_selp (y := (⟨"com/example/holdback/holdback/sim/EventQueue", "play", "(I)V"⟩ : MethodName)) w_75 rfl w_57 w_56 (by decide))) (Cond.privateMethod_at (mvP hZ w_57 (args := #[]))) (mvT hZ w_58) (by decide) (backOf (W := 0) (rmPlay l Z a0 hw [] q1 fa fp wi kf kp kw ((ds.set (s1).toNatClampNeg (.double dd100))) ((ls.set (s1).toNatClampNeg (.long jj118))) wl2_146 zN z2 nd148 T146.heap n0 zl160 F150 F152 F153 F154 F156 F158 G146_0 F159 Gs103 Gs123 H146_0 HN hc149 l_nd148 (by omega) (by omega) (by omega) (by omega)) hZ w_58 w_6 (by decide) (by decide)) (g := (mkF m 84 #[.val (.ref q1), .val (.int s1), .val (.int (0 : Int32)), .val (.ref aa14), .val (.int nd148)] [(.int nd148), (.ref q1)])) rfl (by rw [hml]; rfl) (Steps.refl _) (a := q1) q161 q161' (argsL := [(.int nd148)]) (rest := []) (lenOf pd__28I_29V rfl) rfl (by show 2 * 0 + _ ≤ _; exact Nat.le_of_eq rfl) (hb hby d15_84) (fun _ _ => ⟨rfl, rfl, (by decide : 0 + 0 ≤ _), (by decide : 0 + 0 ≤ _)⟩)
        dsimp only [Pt.U, Pt.locs, Pt.cells, Pt.slots] at X161 l161 y161 z161 st161 hQ161
        rw [l161, y161, z161] at X161
        obtain ⟨wl2_161, rfl, Nq161, Kp161, G161_0, H161_0⟩ := hQ161
        have N161 := Fr.app N146 Nq161
        refine own_goT st161 ?_
        have le_161 : T146.heap.size ≤ T161.heap.size := Kp161.1
        have K161 : Keep h0 T161.heap [fa, fp, wi] := Keep.trans K146 Kp161 (allS (Or.inl (List.mem_of_getElem? (i := 2) rfl)) all0)
        refine own_go (fun _ => XS.iloadN X161.here hx rfl (hb hby d15_87) rfl) ?_
        show ∃ t o, Steps p.tables e below (T161.setTop (mkF m 88 #[.val (.ref q1), .val (.int s1), .val (.int (0 : Int32)), .val (.ref aa14), .val (.int nd148)] [(.int (0 : Int32))])) t ∧ _
        refine own_go (fun _ => XS.ifYes X161.here hx rfl (pc0 := 88) (pc' := 103) rfl (hb hby d15_88) rfl ((if0 _ _).trans (teq (by decide : (0 : Int32) = (0 : Int32))).1) (by decide) (by decide)) ?_
        refine own_go (fun _ => XS.iload X161.here hx rfl (hb hby d15_103) rfl) ?_
        refine own_go (fun _ => XS.iconst X161.here hx rfl (hb hby d15_105)) ?_
        refine own_go (fun _ => XS.iushr X161.here hx rfl (hb hby d15_106) rfl) ?_
        refine own_go (fun _ => XS.istore X161.here hx rfl (hb hby d15_107) rfl (l' := #[.val (.ref q1), .val (.int s1), .val (.int (0 : Int32)), .val (.ref aa14), .val (.int ((nd148.toUInt32 >>> ((1 : Int32) &&& 31).toUInt32).toInt32))]) rfl) ?_
        refine own_go (fun _ => XS.goto X161.here hx rfl (pc0 := 109) (pc' := 76) rfl (hb hby d15_109) (by decide) (by decide)) ?_
        obtain ⟨nd162, e_nd162, b_nd162⟩ : ∃ z : Int32, z = ((nd148.toUInt32 >>> ((1 : Int32) &&& 31).toUInt32).toInt32) ∧ 0 ≤ z.toInt ∧ z.toInt < zN.toInt ∧ z.toInt < 2 := ⟨_, rfl, (have u := own_ush nd148 b_nd148.1; have q := b_nd148; show 0 ≤ _ ∧ _ ∧ _ from ⟨u.1, by omega, by omega⟩)⟩
        show ∃ t o, Steps p.tables e below (T161.setTop (mkF m 76 #[.val (.ref q1), .val (.int s1), .val (.int (0 : Int32)), .val (.ref aa14), .val (.int ((nd148.toUInt32 >>> ((1 : Int32) &&& 31).toUInt32).toInt32))] [])) t ∧ _
        rw [← e_nd162]
        have l_nd162 : nd162 < zN := own_ilt b_nd162.2.1
        show ∃ t o, Steps p.tables e below (T161.setTop (mkF m 76 #[.val (.ref q1), .val (.int s1), .val (.int (0 : Int32)), .val (.ref aa14), .val (.int nd162)] [])) t ∧ _
        refine own_go (fun _ => XS.iload X161.here hx rfl (hb hby d15_76) rfl) ?_
        show ∃ t o, Steps p.tables e below (T161.setTop (mkF m 78 #[.val (.ref q1), .val (.int s1), .val (.int (0 : Int32)), .val (.ref aa14), .val (.int nd162)] [(.int nd162)])) t ∧ _
        by_cases hc163 : (0 : Int32) < nd162
        · refine own_go (fun _ => XS.ifNo X161.here hx rfl (hb hby d15_78) rfl ((if0 _ _).trans (tlt hc163).2.2.2)) ?_
          refine own_go (fun _ => XS.aloadN X161.here hx rfl (hb hby d15_81) rfl rfl) ?_
          refine own_go (fun _ => XS.iload X161.here hx rfl (hb hby d15_82) rfl) ?_
          show ∃ t o, Steps p.tables e below (T161.setTop (mkF m 84 #[.val (.ref q1), .val (.int s1), .val (.int (0 : Int32)), .val (.ref aa14), .val (.int nd162)] [(.int nd162), (.ref q1)])) t ∧ _
          have F164 := (Exa.keep F150 Kp161)
          have F165 := (Fld.keep F152 Kp161 (ninS ne151 nin0))
          have F166 := (Fld.keep F153 Kp161 (ninS ne151 nin0))
          have F167 := (Fld.keep F154 Kp161 (ninS ne151 nin0))
          have F168 := (Arv.keep F156 Kp161 (ninS ne155 nin0))
          have F169 := (Arv.keep F158 Kp161 (ninS ne157 nin0))
          have F170 := (Old.keep F159 Kp161 (allS ge147 all0))
          have zl171 : n0 ≤ T161.heap.size := by omega
          obtain ⟨cq172, q172, q172'⟩ := F164.cell
          obtain ⟨_, _, ⟨T172, L172, k172, n172⟩, -, X172, ⟨Lc172, hQ172, l172, y172, z172⟩, st172⟩ := X161.privateBack hx (y := (⟨"com/example/holdback/holdback/sim/EventQueue", "play", "(I)V"⟩ : MethodName)) hown (mvT hZ w_55) (mvT hZ w_56) (mvT hZ (own_selp (y := (⟨"com/example/holdback/holdback/sim/EventQueue", "play", "(I)V"⟩ : MethodName)) w_75 rfl w_57 w_56 (by decide))) (Cond.privateMethod_at (mvP hZ w_57 (args := #[]))) (mvT hZ w_58) (by decide) (backOf (W := 0) (rmPlay l Z a0 hw [] q1 fa fp wi kf kp kw ((ds.set (s1).toNatClampNeg (.double dd100))) ((ls.set (s1).toNatClampNeg (.long jj118))) wl2_161 zN z2 nd162 T161.heap n0 zl171 F164 F165 F166 F167 F168 F169 G161_0 F170 Gs103 Gs123 H161_0 HN hc163 l_nd162 (by omega) (by omega) (by omega) (by omega)) hZ w_58 w_6 (by decide) (by decide)) (g := (mkF m 84 #[.val (.ref q1), .val (.int s1), .val (.int (0 : Int32)), .val (.ref aa14), .val (.int nd162)] [(.int nd162), (.ref q1)])) rfl (by rw [hml]; rfl) (Steps.refl _) (a := q1) q172 q172' (argsL := [(.int nd162)]) (rest := []) (lenOf pd__28I_29V rfl) rfl (by show 2 * 0 + _ ≤ _; exact Nat.le_of_eq rfl) (hb hby d15_84) (fun _ _ => ⟨rfl, rfl, (by decide : 0 + 0 ≤ _), (by decide : 0 + 0 ≤ _)⟩)
          dsimp only [Pt.U, Pt.locs, Pt.cells, Pt.slots] at X172 l172 y172 z172 st172 hQ172
          rw [l172, y172, z172] at X172
          obtain ⟨wl2_172, rfl, Nq172, Kp172, G172_0, H172_0⟩ := hQ172
          have N172 := Fr.app N161 Nq172
          refine own_goT st172 ?_
          have le_172 : T161.heap.size ≤ T172.heap.size := Kp172.1
          have K172 : Keep h0 T172.heap [fa, fp, wi] := Keep.trans K161 Kp172 (allS (Or.inl (List.mem_of_getElem? (i := 2) rfl)) all0)
          refine own_go (fun _ => XS.iloadN X172.here hx rfl (hb hby d15_87) rfl) ?_
          show ∃ t o, Steps p.tables e below (T172.setTop (mkF m 88 #[.val (.ref q1), .val (.int s1), .val (.int (0 : Int32)), .val (.ref aa14), .val (.int nd162)] [(.int (0 : Int32))])) t ∧ _
          refine own_go (fun _ => XS.ifYes X172.here hx rfl (pc0 := 88) (pc' := 103) rfl (hb hby d15_88) rfl ((if0 _ _).trans (teq (by decide : (0 : Int32) = (0 : Int32))).1) (by decide) (by decide)) ?_
          refine own_go (fun _ => XS.iload X172.here hx rfl (hb hby d15_103) rfl) ?_
          refine own_go (fun _ => XS.iconst X172.here hx rfl (hb hby d15_105)) ?_
          refine own_go (fun _ => XS.iushr X172.here hx rfl (hb hby d15_106) rfl) ?_
          refine own_go (fun _ => XS.istore X172.here hx rfl (hb hby d15_107) rfl (l' := #[.val (.ref q1), .val (.int s1), .val (.int (0 : Int32)), .val (.ref aa14), .val (.int ((nd162.toUInt32 >>> ((1 : Int32) &&& 31).toUInt32).toInt32))]) rfl) ?_
          refine own_go (fun _ => XS.goto X172.here hx rfl (pc0 := 109) (pc' := 76) rfl (hb hby d15_109) (by decide) (by decide)) ?_
          obtain ⟨nd173, e_nd173, b_nd173⟩ : ∃ z : Int32, z = ((nd162.toUInt32 >>> ((1 : Int32) &&& 31).toUInt32).toInt32) ∧ 0 ≤ z.toInt ∧ z.toInt < zN.toInt ∧ z.toInt < 1 := ⟨_, rfl, (have u := own_ush nd162 b_nd162.1; have q := b_nd162; show 0 ≤ _ ∧ _ ∧ _ from ⟨u.1, by omega, by omega⟩)⟩
          show ∃ t o, Steps p.tables e below (T172.setTop (mkF m 76 #[.val (.ref q1), .val (.int s1), .val (.int (0 : Int32)), .val (.ref aa14), .val (.int ((nd162.toUInt32 >>> ((1 : Int32) &&& 31).toUInt32).toInt32))] [])) t ∧ _
          rw [← e_nd173]
          have l_nd173 : nd173 < zN := own_ilt b_nd173.2.1
          show ∃ t o, Steps p.tables e below (T172.setTop (mkF m 76 #[.val (.ref q1), .val (.int s1), .val (.int (0 : Int32)), .val (.ref aa14), .val (.int nd173)] [])) t ∧ _
          refine own_go (fun _ => XS.iload X172.here hx rfl (hb hby d15_76) rfl) ?_
          show ∃ t o, Steps p.tables e below (T172.setTop (mkF m 78 #[.val (.ref q1), .val (.int s1), .val (.int (0 : Int32)), .val (.ref aa14), .val (.int nd173)] [(.int nd173)])) t ∧ _
          have hd174 : ¬ ((0 : Int32) < nd173) := (fun q => by rw [Int32.lt_iff_toInt_lt] at q; have := b_nd173; have e0 : (0 : Int32).toInt = 0 := rfl; omega)
          refine own_go (fun _ => XS.ifYes X172.here hx rfl (pc0 := 78) (pc' := 112) rfl (hb hby d15_78) rfl ((if0 _ _).trans (flt hd174).2.2.2) (by decide) (by decide)) ?_
          show ∃ t o, Steps p.tables e below (T172.setTop (mkF m 112 #[.val (.ref q1), .val (.int s1), .val (.int (0 : Int32)), .val (.ref aa14), .val (.int nd173)] [])) t ∧ _
          have F175 := (Arv.keep F168 Kp172 (ninS ne155 nin0))
          have F176 := (Arv.keep F169 Kp172 (ninS ne157 nin0))
          obtain ⟨fs, hr, hrun, hended, hW, hsame⟩ := X172.leave (v := none) (fun _ => rfl)
          refine ⟨_, _, ?_, hrun, hended, _, _, rfl, ?_, ⟨_, rfl⟩, hW, hsame.mono (by decide) (by decide)⟩
          · exact X172.returnOut hx Bd.returns (hb hby d15_112) hr
          · show Q_rmFC0 Z _ _ _ _ _ _ _ _ _ _ _ _ _ _ _ _ _ _ _ h0 n0 _ T172.heap _
            exact ⟨(ds.set (s1).toNatClampNeg (.double dd100)), (ls.set (s1).toNatClampNeg (.long jj118)), wl2_172, rfl, N172, K172, F175, F176, G172_0, Gs103, Gs123, H172_0⟩
        · refine own_go (fun _ => XS.ifYes X161.here hx rfl (pc0 := 78) (pc' := 112) rfl (hb hby d15_78) rfl ((if0 _ _).trans (flt hc163).2.2.2) (by decide) (by decide)) ?_
          show ∃ t o, Steps p.tables e below (T161.setTop (mkF m 112 #[.val (.ref q1), .val (.int s1), .val (.int (0 : Int32)), .val (.ref aa14), .val (.int nd162)] [])) t ∧ _
          have F177 := (Arv.keep F156 Kp161 (ninS ne155 nin0))
          have F178 := (Arv.keep F158 Kp161 (ninS ne157 nin0))
          obtain ⟨fs, hr, hrun, hended, hW, hsame⟩ := X161.leave (v := none) (fun _ => rfl)
          refine ⟨_, _, ?_, hrun, hended, _, _, rfl, ?_, ⟨_, rfl⟩, hW, hsame.mono (by decide) (by decide)⟩
          · exact X161.returnOut hx Bd.returns (hb hby d15_112) hr
          · show Q_rmFC0 Z _ _ _ _ _ _ _ _ _ _ _ _ _ _ _ _ _ _ _ h0 n0 _ T161.heap _
            exact ⟨(ds.set (s1).toNatClampNeg (.double dd100)), (ls.set (s1).toNatClampNeg (.long jj118)), wl2_161, rfl, N161, K161, F177, F178, G161_0, Gs103, Gs123, H161_0⟩
      · refine own_go (fun _ => XS.ifYes X146.here hx rfl (pc0 := 78) (pc' := 112) rfl (hb hby d15_78) rfl ((if0 _ _).trans (flt hc149).2.2.2) (by decide) (by decide)) ?_
        show ∃ t o, Steps p.tables e below (T146.setTop (mkF m 112 #[.val (.ref q1), .val (.int s1), .val (.int (0 : Int32)), .val (.ref aa14), .val (.int nd148)] [])) t ∧ _
        have ne179 : fa ≠ wi := own_ne (by omega)
        have F180 := (Arv.keep F140 Kp146 (ninS ne179 nin0))
        have ne181 : fp ≠ wi := own_ne (by omega)
        have F182 := (Arv.keep V124 Kp146 (ninS ne181 nin0))
        obtain ⟨fs, hr, hrun, hended, hW, hsame⟩ := X146.leave (v := none) (fun _ => rfl)
        refine ⟨_, _, ?_, hrun, hended, _, _, rfl, ?_, ⟨_, rfl⟩, hW, hsame.mono (by decide) (by decide)⟩
        · exact X146.returnOut hx Bd.returns (hb hby d15_112) hr
        · show Q_rmFC0 Z _ _ _ _ _ _ _ _ _ _ _ _ _ _ _ _ _ _ _ h0 n0 _ T146.heap _
          exact ⟨(ds.set (s1).toNatClampNeg (.double dd100)), (ls.set (s1).toNatClampNeg (.long jj118)), wl2_146, rfl, N146, K146, F180, F182, G146_0, Gs103, Gs123, H146_0⟩
    · refine own_go (fun _ => XS.ifYes X128.here hx rfl (pc0 := 78) (pc' := 112) rfl (hb hby d15_78) rfl ((if0 _ _).trans (flt hc134).2.2.2) (by decide) (by decide)) ?_
      show ∃ t o, Steps p.tables e below (T128.setTop (mkF m 112 #[.val (.ref q1), .val (.int s1), .val (.int (0 : Int32)), .val (.ref aa14), .val (.int nd133)] [])) t ∧ _
      have ne183 : fa ≠ fp := own_ne (by omega)
      have F184 := (Arv.other V104 W124 ne183)
      have ne185 : wi ≠ fa := own_ne (by omega)
      have ne186 : wi ≠ fp := own_ne (by omega)
      have F187 := (Arv.other (Arv.other P7 W104 ne185) W124 ne186)
      obtain ⟨fs, hr, hrun, hended, hW, hsame⟩ := X128.leave (v := none) (fun _ => rfl)
      refine ⟨_, _, ?_, hrun, hended, _, _, rfl, ?_, ⟨_, rfl⟩, hW, hsame.mono (by decide) (by decide)⟩
      · exact X128.returnOut hx Bd.returns (hb hby d15_112) hr
      · show Q_rmFC0 Z _ _ _ _ _ _ _ _ _ _ _ _ _ _ _ _ _ _ _ h0 n0 _ T128.heap _
        rw [e128]
        exact ⟨(ds.set (s1).toNatClampNeg (.double dd100)), (ls.set (s1).toNatClampNeg (.long jj118)), wl, rfl, N124, K124, F184, V124, F187, Gs103, Gs123, GW⟩
theorem ef_rmFC1 (m : MethodId) (x0 : Nat) (x1 : Int32) (x2 : Int32) : entryFrame m #[(.ref x0), (.int x1), (.int x2)] 5 = mkF m 0 #[.val (.ref x0), .val (.int x1), .val (.int x2), .unset, .unset] [] := by first | (simp [entryFrame, mkF, argsToLocals, Value.category]; done) | rfl
theorem d15_91 : decode prog_164_method_8_code 91 = .ok (.aload_n 0, 1) := by decide +kernel
theorem d15_92 : decode prog_164_method_8_code 92 = .ok (.getfield 35, 3) := by decide +kernel
theorem d15_95 : decode prog_164_method_8_code 95 = .ok (.iload 4, 2) := by decide +kernel
theorem d15_97 : decode prog_164_method_8_code 97 = .ok (.iaload, 1) := by decide +kernel
theorem d15_98 : decode prog_164_method_8_code 98 = .ok (.iload_n 1, 1) := by decide +kernel
theorem d15_99 : decode prog_164_method_8_code 99 = .ok (.if_icmp .eq 4, 3) := by decide +kernel
theorem d15_102 : decode prog_164_method_8_code 102 = .ok (.return_, 1) := by decide +kernel
def Q_rmFC1 (Z : State) (q1 : Nat) (fa : Nat) (fp : Nat) (wi : Nat) (kf : ClassId) (kp : ClassId) (kw : ClassId) (ds : List Value) (ls : List Value) (wl : List Value) (zN : Int32) (z2 : Int32) (ss : Nat) (ks : ClassId) (vs : List Value) (ff : Nat → Nat) (TT : Int) (KK : Int) (s1 : Int32) (h0 : Heap) (n0 : Nat) (v : Option Value) (h : Heap) (L : List Loc) : Prop := ∃ (ds2 : List Value), ∃ (ls2 : List Value), ∃ (wl2 : List Value), v = none ∧ Fr n0 L ∧ Keep h0 h [fa, fp, wi] ∧ Arv Z h fa kf .double zN ds2 (.double (0 : UInt64)) ∧ Arv Z h fp kp .long zN ls2 (.long (0 : Int64)) ∧ Arv Z h wi kw .int z2 wl2 (.int (0 : Int32)) ∧ (own_G own_pd (.double (0 : UInt64)) zN ds2) ∧ (own_G own_pj (.long (0 : Int64)) zN ls2) ∧ (own_G (own_pw zN) (.int (0 : Int32)) z2 wl2)
set_option maxRecDepth 65536 in
set_option maxHeartbeats 40000000 in
theorem rmFC1 (l : Launch) (Z : State) (a0 : Array Value) (hw : ∀ d ∈ tables_1, d.before a0 Z = true) (ws : List Jvm.Cond) (q1 : Nat) (fa : Nat) (fp : Nat) (wi : Nat) (kf : ClassId) (kp : ClassId) (kw : ClassId) (ds : List Value) (ls : List Value) (wl : List Value) (zN : Int32) (z2 : Int32) (ss : Nat) (ks : ClassId) (vs : List Value) (ff : Nat → Nat) (TT : Int) (KK : Int) (s1 : Int32) (h0 : Heap) (n0 : Nat) (Z0 : n0 ≤ h0.size) (P1 : Exa Z h0 q1 "com/example/holdback/holdback/sim/EventQueue") (P2 : Fld Z h0 q1 "com/example/holdback/holdback/sim/EventQueue" "firstAt" "[D" (.ref fa)) (P3 : Fld Z h0 q1 "com/example/holdback/holdback/sim/EventQueue" "firstPlace" "[J" (.ref fp)) (P4 : Fld Z h0 q1 "com/example/holdback/holdback/sim/EventQueue" "winners" "[I" (.ref wi)) (P5 : Arv Z h0 fa kf .double zN ds (.double (0 : UInt64))) (P6 : Arv Z h0 fp kp .long zN ls (.long (0 : Int64))) (P7 : Arv Z h0 wi kw .int z2 wl (.int (0 : Int32))) (P8 : Fld Z h0 q1 "com/example/holdback/holdback/sim/EventQueue" "streams" "[Lcom/example/holdback/holdback/sim/EventQueue$Stream;" (.ref ss)) (P9 : Arv Z h0 ss ks (.object "com/example/holdback/holdback/sim/EventQueue$Stream") zN vs .null) (P10 : own_SS Z h0 zN.toNatClampNeg ff TT KK) (OLD : Old Z n0 h0) (GD : own_G own_pd (.double (0 : UInt64)) zN ds) (GJ : own_G own_pj (.long (0 : Int64)) zN ls) (GW : own_G (own_pw zN) (.int (0 : Int32)) z2 wl) (HN : own_N zN z2) (HR : own_R zN ff vs) (o1 : q1 < ss) (o2 : ss < fa) (o3 : fa < fp) (o4 : fp < wi) (o5 : wi < ff 0) (gq : n0 ≤ q1) (hs : ¬ s1 < 0 ∧ s1 < zN) :
    MetFree l (⟨"com/example/holdback/holdback/sim/EventQueue", "firstChanged", "(IZ)V"⟩ : MethodName) (head1 (Jvm.Cond.code (⟨"com/example/holdback/holdback/sim/EventQueue", "firstChanged", "(IZ)V"⟩ : MethodName) prog_164_method_8_code 5 none :: ws) ({ frames := 4, cells := 0, slots := 0, locals := 109 } : Room)) (fun a U => a = #[(.ref q1), (.int s1), (.int (1 : Int32))] ∧ Z.Warmed39 U.vm ∧ U.heap = h0) (fun _ _ _ _ _ => True) (fun _ U o U' => ∃ v L, o = .returned v ∧ Q_rmFC1 Z q1 fa fp wi kf kp kw ds ls wl zN z2 ss ks vs ff TT KK s1 h0 n0 v U'.heap L ∧ FrameEnd U o U' L ({ frames := 4, cells := 0, slots := 0, locals := 109 } : Room).cells ({ frames := 4, cells := 0, slots := 0, locals := 109 } : Room).slots) := by
  refine MetFree.of_bodySF (plainFor_of_name pn_com_example_holdback_holdback_sim_EventQueue) hisR ?_
  intro p e s m args below meth c s₁ Bd hml0 hP hK
  obtain ⟨rfl, hZ, hh⟩ := hP
  have hx := Bd.exec
  have hby := Bd.bytes
  have hml : c.maxLocals = 5 := hml0
  have hown : s.vm.findClass "com/example/holdback/holdback/sim/EventQueue" = some m.cls := findClass_of_methodNamed Bd.named
  have hnm := (name_of_methodNamed Bd.named Bd.method).1
  have X0 : Stand p l e ({ frames := 4, cells := 0, slots := 0, locals := 109 } : Room) s m #[(.ref q1), (.int s1), (.int (1 : Int32))] below meth c s₁ [] 0 0 := Stand.of_body Bd
  have e0 : s₁.heap = h0 := by rw [← hh, Bd.state]; rfl
  have N0 := Fr.nil n0
  have pre0 : ∀ t, Steps p.tables e below (s₁.setTop (mkF m 0 #[.val (.ref q1), .val (.int s1), .val (.int (1 : Int32)), .unset, .unset] [])) t → Steps p.tables e below (s₁.setTop (entryFrame m #[(.ref q1), (.int s1), (.int (1 : Int32))] 5)) t := fun t k => castTop (ef_rmFC1 m q1 s1 (1 : Int32)) k
  have w_104 := hw _ (List.mem_of_getElem? (i := 104) rfl)
  have w_27 := hw _ (List.mem_of_getElem? (i := 27) rfl)
  have w_30 := hw _ (List.mem_of_getElem? (i := 30) rfl)
  have w_33 := hw _ (List.mem_of_getElem? (i := 33) rfl)
  have w_36 := hw _ (List.mem_of_getElem? (i := 36) rfl)
  have w_55 := hw _ (List.mem_of_getElem? (i := 55) rfl)
  have w_56 := hw _ (List.mem_of_getElem? (i := 56) rfl)
  have w_57 := hw _ (List.mem_of_getElem? (i := 57) rfl)
  have w_58 := hw _ (List.mem_of_getElem? (i := 58) rfl)
  have w_6 := hw _ (List.mem_of_getElem? (i := 6) rfl)
  have w_75 := hw _ (List.mem_of_getElem? (i := 75) rfl)
  have oz := OLD.1
  have lt_fa : fa < h0.size := P5.lt
  have lt_fp : fp < h0.size := P6.lt
  have lt_q1 : q1 < h0.size := P1.lt
  have lt_ss : ss < h0.size := P9.lt
  have lt_wi : wi < h0.size := P7.lt
  refine own_go (B := s₁.setTop (mkF m 0 #[.val (.ref q1), .val (.int s1), .val (.int (1 : Int32)), .unset, .unset] [])) pre0 ?_
  show ∃ t o, Steps p.tables e below (s₁.setTop (mkF m 0 #[.val (.ref q1), .val (.int s1), .val (.int (1 : Int32)), .unset, .unset] [])) t ∧ _
  refine own_go (fun _ => XS.aloadN X0.here hx rfl (hb hby d15_0) rfl rfl) ?_
  obtain ⟨T11, X11, e11, st11⟩ := getF X0 hx hZ hown (host := "") (Or.inl w_27) Via.refl e0 P8 (g := (mkF m 1 #[.val (.ref q1), .val (.int s1), .val (.int (1 : Int32)), .unset, .unset] [(.ref q1)])) rfl rfl (hb hby d15_1)
  refine own_go st11 ?_
  refine own_go (fun _ => XS.iloadN X11.here hx rfl (hb hby d15_4) rfl) ?_
  have ib13 : ¬ s1 < 0 ∧ s1 < zN := hs
  obtain ⟨aa14, ea14⟩ : ∃ z, z = ff (s1).toNatClampNeg := ⟨_, rfl⟩
  obtain ⟨hi14, eh14⟩ : ∃ z, z = ff ((s1).toNatClampNeg + 1) := ⟨_, rfl⟩
  have hr14 := HR s1 ib13.1 ib13.2
  have os14 := P10 (s1).toNatClampNeg (own_lti ib13.1 ib13.2)
  have om14 := own_SS.mono P10 0 (s1).toNatClampNeg (Nat.zero_le _) (Nat.le_of_lt (own_lti ib13.1 ib13.2))
  rw [← ea14] at hr14 os14 om14
  rw [← eh14] at os14
  obtain ⟨am_14, ap_14, ac_14, km_14, kp_14, kc_14, lm_14, lp_14, lc_14, f1_14, z1_14, x1_14, Sl1_14, Sl2_14, Sl3_14, Sl4_14, SE_14, SF1_14, SF2_14, SF3_14, SF4_14, SF5_14, SF6_14, SA1_14, SA2_14, SA3_14, SG1_14, SG2_14, SG3_14, SB1_14, SB2_14, SB3_14⟩ := os14
  obtain ⟨cl12, Ar12, q12, S12, N12, H12, G12⟩ := id P9
  have hin12 : ¬ (s1 < 0 ∨ cl12.slots.size ≤ (s1).toNatClampNeg) := inb_of S12 ib13
  have hat12 : cl12.slots[(s1).toNatClampNeg]? = some (.ref aa14) := Has.at H12 hin12 hr14
  refine own_go (fun _ => X11.aaload hx (j := s1) (v := (.ref aa14)) (by rw [e11]; exact Ar12.1) (State.isArrayOf_alike hZ.alike Ar12.2.1) rfl Ar12.2.2 hin12 hat12 (g := (mkF m 5 #[.val (.ref q1), .val (.int s1), .val (.int (1 : Int32)), .unset, .unset] [(.int s1), (.ref ss)])) rfl rfl (hb hby d15_5) _) ?_
  refine own_go (fun _ => XS.astoreN X11.here hx rfl (hb hby d15_6) rfl rfl (l' := #[.val (.ref q1), .val (.int s1), .val (.int (1 : Int32)), .val (.ref aa14), .unset]) rfl) ?_
  refine own_go (fun _ => XS.aloadN X11.here hx rfl (hb hby d15_7) rfl rfl) ?_
  obtain ⟨T15, X15, e15, st15⟩ := own_getR X11 hx hZ hown (hw _ (List.mem_of_getElem? (i := 98) rfl)) e11 SF5_14 (g := (mkF m 8 #[.val (.ref q1), .val (.int s1), .val (.int (1 : Int32)), .val (.ref aa14), .unset] [(.ref aa14)])) rfl rfl (hb hby d15_8)
  refine own_go st15 ?_
  show ∃ t o, Steps p.tables e below (T15.setTop (mkF m 11 #[.val (.ref q1), .val (.int s1), .val (.int (1 : Int32)), .val (.ref aa14), .unset] [(.int z1_14)])) t ∧ _
  by_cases hc16 : z1_14 = (0 : Int32)
  · refine own_go (fun _ => XS.ifNo X15.here hx rfl (hb hby d15_11) rfl ((if0 _ _).trans (teq hc16).2)) ?_
    refine own_go (fun _ => XS.aloadN X15.here hx rfl (hb hby d15_14) rfl rfl) ?_
    obtain ⟨T17, X17, e17, st17⟩ := getF X15 hx hZ hown (host := "") (Or.inl w_30) Via.refl e15 P2 (g := (mkF m 15 #[.val (.ref q1), .val (.int s1), .val (.int (1 : Int32)), .val (.ref aa14), .unset] [(.ref q1)])) rfl rfl (hb hby d15_15)
    refine own_go st17 ?_
    refine own_go (fun _ => XS.iloadN X17.here hx rfl (hb hby d15_18) rfl) ?_
    refine own_go (fun _ => X17.ldc2DoubleC hx hown (mvT hZ (hw _ (List.mem_of_getElem? (i := 53) rfl))) (g := (mkF m 19 #[.val (.ref q1), .val (.int s1), .val (.int (1 : Int32)), .val (.ref aa14), .unset] [(.int s1), (.ref fa)])) rfl (hb hby d15_19) _) ?_
    obtain ⟨cl18, Ar18, q18, S18, N18, H18, G18⟩ := id P5
    have ib19 : ¬ s1 < 0 ∧ s1 < zN := hs
    have Gs20 : own_G own_pd (.double (0 : UInt64)) zN (ds.set (s1).toNatClampNeg (.double (9218868437227405312 : UInt64))) := own_G.set GD _ ⟨_, rfl, own_inf⟩
    have hin18 : ¬ (s1 < 0 ∨ cl18.slots.size ≤ (s1).toNatClampNeg) := inb_of S18 ib19
    obtain ⟨T21, h21, X21, e21, W21, st21⟩ := stD X17 hx hZ e17 Ar18 (j := s1) hin18 (g := (mkF m 22 #[.val (.ref q1), .val (.int s1), .val (.int (1 : Int32)), .val (.ref aa14), .unset] [(.double (9218868437227405312 : UInt64)), (.int s1), (.ref fa)])) rfl rfl (hb hby d15_22)
    refine own_go st21 ?_
    have ge22 : n0 ≤ fa := by omega
    have le_21 : h0.size ≤ h21.size := Nat.le_of_eq W21.size.symm
    have K21 : Keep h0 h21 [fa, fp, wi] := Keep.wr (Keep.refl h0 [fa, fp, wi]) W21 (Or.inl (List.mem_of_getElem? (i := 0) rfl))
    have N21 := Fr.snoc X21 N0 ge22
    have V21 : Arv Z h21 fa kf .double zN (ds.set (s1).toNatClampNeg (.double (9218868437227405312 : UInt64))) (.double (0 : UInt64)) := Arv.set Ar18 q18 S18 N18 H18 G18 rfl W21 (s1).toNatClampNeg rfl (GD.len ib19)
    refine own_go (fun _ => XS.aloadN X21.here hx rfl (hb hby d15_23) rfl rfl) ?_
    have ne23 : q1 ≠ fa := own_ne (by omega)
    have F24 := (Fld.other W21 P3 (Or.inl ne23))
    obtain ⟨T25, X25, e25, st25⟩ := getF X21 hx hZ hown (host := "") (Or.inl w_33) Via.refl e21 F24 (g := (mkF m 24 #[.val (.ref q1), .val (.int s1), .val (.int (1 : Int32)), .val (.ref aa14), .unset] [(.ref q1)])) rfl rfl (hb hby d15_24)
    refine own_go st25 ?_
    show ∃ t o, Steps p.tables e below (T25.setTop (mkF m 27 #[.val (.ref q1), .val (.int s1), .val (.int (1 : Int32)), .val (.ref aa14), .unset] [(.ref fp)])) t ∧ _
    refine own_go (fun _ => XS.iloadN X25.here hx rfl (hb hby d15_27) rfl) ?_
    refine own_go (fun _ => X25.ldc2Long hx hown (mvT hZ (hw _ (List.mem_of_getElem? (i := 54) rfl))) (g := (mkF m 28 #[.val (.ref q1), .val (.int s1), .val (.int (1 : Int32)), .val (.ref aa14), .unset] [(.int s1), (.ref fp)])) rfl (hb hby d15_28) _) ?_
    have ne26 : fp ≠ fa := own_ne (by omega)
    have F27 := (Arv.other P6 W21 ne26)
    obtain ⟨cl28, Ar28, q28, S28, N28, H28, G28⟩ := id F27
    have ib29 : ¬ s1 < 0 ∧ s1 < zN := hs
    have Gs30 : own_G own_pj (.long (0 : Int64)) zN (ls.set (s1).toNatClampNeg (.long (9223372036854775807 : Int64))) := own_G.set GJ _ ⟨_, rfl⟩
    have hin28 : ¬ (s1 < 0 ∨ cl28.slots.size ≤ (s1).toNatClampNeg) := inb_of S28 ib29
    obtain ⟨T31, h31, X31, e31, W31, st31⟩ := stJ X25 hx hZ e25 Ar28 (j := s1) hin28 (g := (mkF m 31 #[.val (.ref q1), .val (.int s1), .val (.int (1 : Int32)), .val (.ref aa14), .unset] [(.long (9223372036854775807 : Int64)), (.int s1), (.ref fp)])) rfl rfl (hb hby d15_31)
    refine own_go st31 ?_
    have ge32 : n0 ≤ fp := by omega
    have le_31 : h21.size ≤ h31.size := Nat.le_of_eq W31.size.symm
    have K31 : Keep h0 h31 [fa, fp, wi] := Keep.wr K21 W31 (Or.inl (List.mem_of_getElem? (i := 1) rfl))
    have N31 := Fr.snoc X31 N21 ge32
    have V31 : Arv Z h31 fp kp .long zN (ls.set (s1).toNatClampNeg (.long (9223372036854775807 : Int64))) (.long (0 : Int64)) := Arv.set Ar28 q28 S28 N28 H28 G28 rfl W31 (s1).toNatClampNeg rfl (GJ.len ib29)
    refine own_go (fun _ => XS.goto X31.here hx rfl (pc0 := 32) (pc' := 65) rfl (hb hby d15_32) (by decide) (by decide)) ?_
    refine own_go (fun _ => XS.aloadN X31.here hx rfl (hb hby d15_65) rfl rfl) ?_
    have ne33 : q1 ≠ fp := own_ne (by omega)
    have F34 := (Fld.other W31 (Fld.other W21 P8 (Or.inl ne23)) (Or.inl ne33))
    obtain ⟨T35, X35, e35, st35⟩ := getF X31 hx hZ hown (host := "") (Or.inl w_27) Via.refl e31 F34 (g := (mkF m 66 #[.val (.ref q1), .val (.int s1), .val (.int (1 : Int32)), .val (.ref aa14), .unset] [(.ref q1)])) rfl rfl (hb hby d15_66)
    refine own_go st35 ?_
    have ne36 : ss ≠ fa := own_ne (by omega)
    have ne37 : ss ≠ fp := own_ne (by omega)
    have F38 := (Arv.other (Arv.other P9 W21 ne36) W31 ne37)
    obtain ⟨cl39, Ar39, q39, S39, N39, H39, G39⟩ := id F38
    have ln39 : cl39.slots.size.toInt32 = zN := len_of S39 N39
    have al39 := X35.arraylength hx (by rw [e35]; exact Ar39.1) (State.isArrayOf_alike hZ.alike Ar39.2.1) (g := (mkF m 69 #[.val (.ref q1), .val (.int s1), .val (.int (1 : Int32)), .val (.ref aa14), .unset] [(.ref ss)])) rfl rfl (hb hby d15_69)
    rw [ln39] at al39
    refine own_go al39 ?_
    refine own_go (fun _ => XS.iloadN X35.here hx rfl (hb hby d15_70) rfl) ?_
    show ∃ t o, Steps p.tables e below (T35.setTop (mkF m 71 #[.val (.ref q1), .val (.int s1), .val (.int (1 : Int32)), .val (.ref aa14), .unset] [(.int s1), (.int zN)])) t ∧ _
    refine own_go (fun _ => XS.iadd X35.here hx rfl (hb hby d15_71) rfl) ?_
    refine own_go (fun _ => XS.iconst X35.here hx rfl (hb hby d15_72)) ?_
    refine own_go (fun _ => XS.iushr X35.here hx rfl (hb hby d15_73) rfl) ?_
    refine own_go (fun _ => XS.istore X35.here hx rfl (hb hby d15_74) rfl (l' := #[.val (.ref q1), .val (.int s1), .val (.int (1 : Int32)), .val (.ref aa14), .val (.int (((zN + s1).toUInt32 >>> ((1 : Int32) &&& 31).toUInt32).toInt32))]) rfl) ?_
    obtain ⟨nd40, e_nd40, b_nd40⟩ : ∃ z : Int32, z = (((zN + s1).toUInt32 >>> ((1 : Int32) &&& 31).toUInt32).toInt32) ∧ 0 ≤ z.toInt ∧ z.toInt < zN.toInt ∧ z.toInt < 8 := ⟨_, rfl, (have u := own_nd0 HN hs; have q := HN.int; show 0 ≤ _ ∧ _ ∧ _ from ⟨u.1, u.2, by omega⟩)⟩
    show ∃ t o, Steps p.tables e below (T35.setTop (mkF m 76 #[.val (.ref q1), .val (.int s1), .val (.int (1 : Int32)), .val (.ref aa14), .val (.int (((zN + s1).toUInt32 >>> ((1 : Int32) &&& 31).toUInt32).toInt32))] [])) t ∧ _
    rw [← e_nd40]
    have l_nd40 : nd40 < zN := own_ilt b_nd40.2.1
    show ∃ t o, Steps p.tables e below (T35.setTop (mkF m 76 #[.val (.ref q1), .val (.int s1), .val (.int (1 : Int32)), .val (.ref aa14), .val (.int nd40)] [])) t ∧ _
    refine own_go (fun _ => XS.iload X35.here hx rfl (hb hby d15_76) rfl) ?_
    show ∃ t o, Steps p.tables e below (T35.setTop (mkF m 78 #[.val (.ref q1), .val (.int s1), .val (.int (1 : Int32)), .val (.ref aa14), .val (.int nd40)] [(.int nd40)])) t ∧ _
    by_cases hc41 : (0 : Int32) < nd40
    · refine own_go (fun _ => XS.ifNo X35.here hx rfl (hb hby d15_78) rfl ((if0 _ _).trans (tlt hc41).2.2.2)) ?_
      refine own_go (fun _ => XS.aloadN X35.here hx rfl (hb hby d15_81) rfl rfl) ?_
      refine own_go (fun _ => XS.iload X35.here hx rfl (hb hby d15_82) rfl) ?_
      show ∃ t o, Steps p.tables e below (T35.setTop (mkF m 84 #[.val (.ref q1), .val (.int s1), .val (.int (1 : Int32)), .val (.ref aa14), .val (.int nd40)] [(.int nd40), (.ref q1)])) t ∧ _
      have F42 := (Exa.wr W31 (Exa.wr W21 P1))
      have F43 := (Fld.other W31 (Fld.other W21 P2 (Or.inl ne23)) (Or.inl ne33))
      have F44 := (Fld.other W31 F24 (Or.inl ne33))
      have F45 := (Fld.other W31 (Fld.other W21 P4 (Or.inl ne23)) (Or.inl ne33))
      have ne46 : fa ≠ fp := own_ne (by omega)
      have F47 := (Arv.other V21 W31 ne46)
      have ne48 : wi ≠ fa := own_ne (by omega)
      have ne49 : wi ≠ fp := own_ne (by omega)
      have F50 := (Arv.other (Arv.other P7 W21 ne48) W31 ne49)
      have F51 := (Old.wr (Old.wr OLD W21 ge22) W31 ge32)
      have zl52 : n0 ≤ h31.size := by omega
      obtain ⟨cq53, q53, q53'⟩ := F42.cell
      obtain ⟨_, _, ⟨T53, L53, k53, n53⟩, -, X53, ⟨Lc53, hQ53, l53, y53, z53⟩, st53⟩ := X35.privateBack hx (y := (⟨"com/example/holdback/holdback/sim/EventQueue", "play", "(I)V"⟩ : MethodName)) hown (mvT hZ w_55) (mvT hZ w_56) (mvT hZ (own_selp (y := (⟨"com/example/holdback/holdback/sim/EventQueue", "play", "(I)V"⟩ : MethodName)) w_75 rfl w_57 w_56 (by decide))) (Cond.privateMethod_at (mvP hZ w_57 (args := #[]))) (mvT hZ w_58) (by decide) (backOf (W := 0) (rmPlay l Z a0 hw [] q1 fa fp wi kf kp kw ((ds.set (s1).toNatClampNeg (.double (9218868437227405312 : UInt64)))) ((ls.set (s1).toNatClampNeg (.long (9223372036854775807 : Int64)))) wl zN z2 nd40 h31 n0 zl52 F42 F43 F44 F45 F47 V31 F50 F51 Gs20 Gs30 GW HN hc41 l_nd40 (by omega) (by omega) (by omega) (by omega)) hZ w_58 w_6 (by decide) (by decide)) (g := (mkF m 84 #[.val (.ref q1), .val (.int s1), .val (.int (1 : Int32)), .val (.ref aa14), .val (.int nd40)] [(.int nd40), (.ref q1)])) rfl (by rw [hml]; rfl) (Steps.refl _) (a := q1) (by rw [e35]; exact q53) q53' (argsL := [(.int nd40)]) (rest := []) (lenOf pd__28I_29V rfl) rfl (by show 2 * 0 + _ ≤ _; exact Nat.le_of_eq rfl) (hb hby d15_84) (fun _ _ => ⟨rfl, e35, (by decide : 0 + 0 ≤ _), (by decide : 0 + 0 ≤ _)⟩)
      dsimp only [Pt.U, Pt.locs, Pt.cells, Pt.slots] at X53 l53 y53 z53 st53 hQ53
      rw [l53, y53, z53] at X53
      obtain ⟨wl2_53, rfl, Nq53, Kp53, G53_0, H53_0⟩ := hQ53
      have N53 := Fr.app N31 Nq53
      refine own_goT st53 ?_
      have le_53 : h31.size ≤ T53.heap.size := Kp53.1
      have ge54 : n0 ≤ wi := by omega
      have K53 : Keep h0 T53.heap [fa, fp, wi] := Keep.trans K31 Kp53 (allS (Or.inl (List.mem_of_getElem? (i := 2) rfl)) all0)
      refine own_go (fun _ => XS.iloadN X53.here hx rfl (hb hby d15_87) rfl) ?_
      show ∃ t o, Steps p.tables e below (T53.setTop (mkF m 88 #[.val (.ref q1), .val (.int s1), .val (.int (1 : Int32)), .val (.ref aa14), .val (.int nd40)] [(.int (1 : Int32))])) t ∧ _
      refine own_go (fun _ => XS.ifNo X53.here hx rfl (hb hby d15_88) rfl ((if0 _ _).trans (feq (by decide : ¬ ((1 : Int32) = (0 : Int32)))).1)) ?_
      refine own_go (fun _ => XS.aloadN X53.here hx rfl (hb hby d15_91) rfl rfl) ?_
      have ne55 : q1 ≠ wi := own_ne (by omega)
      have F56 := (Fld.keep F45 Kp53 (ninS ne55 nin0))
      obtain ⟨T57, X57, e57, st57⟩ := getF X53 hx hZ hown (host := "") (Or.inl w_36) Via.refl rfl F56 (g := (mkF m 92 #[.val (.ref q1), .val (.int s1), .val (.int (1 : Int32)), .val (.ref aa14), .val (.int nd40)] [(.ref q1)])) rfl rfl (hb hby d15_92)
      refine own_go st57 ?_
      refine own_go (fun _ => XS.iload X57.here hx rfl (hb hby d15_95) rfl) ?_
      have ib59 : ¬ nd40 < 0 ∧ nd40 < z2 := (own_i2 HN hc41 l_nd40).2.2
      obtain ⟨ii60, hd60, bb60⟩ := H53_0.at ib59
      obtain ⟨cl58, Ar58, q58, S58, N58, H58, G58⟩ := id G53_0
      have hin58 : ¬ (nd40 < 0 ∨ cl58.slots.size ≤ (nd40).toNatClampNeg) := inb_of S58 ib59
      have hat58 : cl58.slots[(nd40).toNatClampNeg]? = some (.int ii60) := Has.at H58 hin58 hd60
      refine own_go (fun _ => X57.iaload hx (j := nd40) (v := (.int ii60)) (by rw [e57]; exact Ar58.1) (State.isArrayOf_alike hZ.alike Ar58.2.1) Ar58.2.2 hin58 hat58 (g := (mkF m 97 #[.val (.ref q1), .val (.int s1), .val (.int (1 : Int32)), .val (.ref aa14), .val (.int nd40)] [(.int nd40), (.ref wi)])) rfl rfl (hb hby d15_97) _) ?_
      refine own_go (fun _ => XS.iloadN X57.here hx rfl (hb hby d15_98) rfl) ?_
      show ∃ t o, Steps p.tables e below (T57.setTop (mkF m 99 #[.val (.ref q1), .val (.int s1), .val (.int (1 : Int32)), .val (.ref aa14), .val (.int nd40)] [(.int s1), (.int ii60)])) t ∧ _
      by_cases hc61 : ii60 = s1
      · refine own_go (fun _ => XS.icmpYes X57.here hx rfl (pc0 := 99) (pc' := 103) rfl (hb hby d15_99) rfl (teq hc61).1 (by decide) (by decide)) ?_
        refine own_go (fun _ => XS.iload X57.here hx rfl (hb hby d15_103) rfl) ?_
        refine own_go (fun _ => XS.iconst X57.here hx rfl (hb hby d15_105)) ?_
        refine own_go (fun _ => XS.iushr X57.here hx rfl (hb hby d15_106) rfl) ?_
        refine own_go (fun _ => XS.istore X57.here hx rfl (hb hby d15_107) rfl (l' := #[.val (.ref q1), .val (.int s1), .val (.int (1 : Int32)), .val (.ref aa14), .val (.int ((nd40.toUInt32 >>> ((1 : Int32) &&& 31).toUInt32).toInt32))]) rfl) ?_
        refine own_go (fun _ => XS.goto X57.here hx rfl (pc0 := 109) (pc' := 76) rfl (hb hby d15_109) (by decide) (by decide)) ?_
        obtain ⟨nd62, e_nd62, b_nd62⟩ : ∃ z : Int32, z = ((nd40.toUInt32 >>> ((1 : Int32) &&& 31).toUInt32).toInt32) ∧ 0 ≤ z.toInt ∧ z.toInt < zN.toInt ∧ z.toInt < 4 := ⟨_, rfl, (have u := own_ush nd40 b_nd40.1; have q := b_nd40; show 0 ≤ _ ∧ _ ∧ _ from ⟨u.1, by omega, by omega⟩)⟩
        show ∃ t o, Steps p.tables e below (T57.setTop (mkF m 76 #[.val (.ref q1), .val (.int s1), .val (.int (1 : Int32)), .val (.ref aa14), .val (.int ((nd40.toUInt32 >>> ((1 : Int32) &&& 31).toUInt32).toInt32))] [])) t ∧ _
        rw [← e_nd62]
        have l_nd62 : nd62 < zN := own_ilt b_nd62.2.1
        show ∃ t o, Steps p.tables e below (T57.setTop (mkF m 76 #[.val (.ref q1), .val (.int s1), .val (.int (1 : Int32)), .val (.ref aa14), .val (.int nd62)] [])) t ∧ _
        refine own_go (fun _ => XS.iload X57.here hx rfl (hb hby d15_76) rfl) ?_
        show ∃ t o, Steps p.tables e below (T57.setTop (mkF m 78 #[.val (.ref q1), .val (.int s1), .val (.int (1 : Int32)), .val (.ref aa14), .val (.int nd62)] [(.int nd62)])) t ∧ _
        by_cases hc63 : (0 : Int32) < nd62
        · refine own_go (fun _ => XS.ifNo X57.here hx rfl (hb hby d15_78) rfl ((if0 _ _).trans (tlt hc63).2.2.2)) ?_
          refine own_go (fun _ => XS.aloadN X57.here hx rfl (hb hby d15_81) rfl rfl) ?_
          refine own_go (fun _ => XS.iload X57.here hx rfl (hb hby d15_82) rfl) ?_
          show ∃ t o, Steps p.tables e below (T57.setTop (mkF m 84 #[.val (.ref q1), .val (.int s1), .val (.int (1 : Int32)), .val (.ref aa14), .val (.int nd62)] [(.int nd62), (.ref q1)])) t ∧ _
          have F64 := (Exa.keep F42 Kp53)
          have F65 := (Fld.keep F43 Kp53 (ninS ne55 nin0))
          have F66 := (Fld.keep F44 Kp53 (ninS ne55 nin0))
          have ne67 : fa ≠ wi := own_ne (by omega)
          have F68 := (Arv.keep F47 Kp53 (ninS ne67 nin0))
          have ne69 : fp ≠ wi := own_ne (by omega)
          have F70 := (Arv.keep V31 Kp53 (ninS ne69 nin0))
          have F71 := (Old.keep F51 Kp53 (allS ge54 all0))
          have zl72 : n0 ≤ T53.heap.size := by omega
          obtain ⟨cq73, q73, q73'⟩ := F64.cell
          obtain ⟨_, _, ⟨T73, L73, k73, n73⟩, -, X73, ⟨Lc73, hQ73, l73, y73, z73⟩, st73⟩ := X57.privateBack hx (y := (⟨"com/example/holdback/holdback/sim/EventQueue", "play", "(I)V"⟩ : MethodName)) hown (mvT hZ w_55) (mvT hZ w_56) (mvT hZ (own_selp (y := (⟨"com/example/holdback/holdback/sim/EventQueue", "play", "(I)V"⟩ : MethodName)) w_75 rfl w_57 w_56 (by decide))) (Cond.privateMethod_at (mvP hZ w_57 (args := #[]))) (mvT hZ w_58) (by decide) (backOf (W := 0) (rmPlay l Z a0 hw [] q1 fa fp wi kf kp kw ((ds.set (s1).toNatClampNeg (.double (9218868437227405312 : UInt64)))) ((ls.set (s1).toNatClampNeg (.long (9223372036854775807 : Int64)))) wl2_53 zN z2 nd62 T53.heap n0 zl72 F64 F65 F66 F56 F68 F70 G53_0 F71 Gs20 Gs30 H53_0 HN hc63 l_nd62 (by omega) (by omega) (by omega) (by omega)) hZ w_58 w_6 (by decide) (by decide)) (g := (mkF m 84 #[.val (.ref q1), .val (.int s1), .val (.int (1 : Int32)), .val (.ref aa14), .val (.int nd62)] [(.int nd62), (.ref q1)])) rfl (by rw [hml]; rfl) (Steps.refl _) (a := q1) (by rw [e57]; exact q73) q73' (argsL := [(.int nd62)]) (rest := []) (lenOf pd__28I_29V rfl) rfl (by show 2 * 0 + _ ≤ _; exact Nat.le_of_eq rfl) (hb hby d15_84) (fun _ _ => ⟨rfl, e57, (by decide : 0 + 0 ≤ _), (by decide : 0 + 0 ≤ _)⟩)
          dsimp only [Pt.U, Pt.locs, Pt.cells, Pt.slots] at X73 l73 y73 z73 st73 hQ73
          rw [l73, y73, z73] at X73
          obtain ⟨wl2_73, rfl, Nq73, Kp73, G73_0, H73_0⟩ := hQ73
          have N73 := Fr.app N53 Nq73
          refine own_goT st73 ?_
          have le_73 : T53.heap.size ≤ T73.heap.size := Kp73.1
          have K73 : Keep h0 T73.heap [fa, fp, wi] := Keep.trans K53 Kp73 (allS (Or.inl (List.mem_of_getElem? (i := 2) rfl)) all0)
          refine own_go (fun _ => XS.iloadN X73.here hx rfl (hb hby d15_87) rfl) ?_
          show ∃ t o, Steps p.tables e below (T73.setTop (mkF m 88 #[.val (.ref q1), .val (.int s1), .val (.int (1 : Int32)), .val (.ref aa14), .val (.int nd62)] [(.int (1 : Int32))])) t ∧ _
          refine own_go (fun _ => XS.ifNo X73.here hx rfl (hb hby d15_88) rfl ((if0 _ _).trans (feq (by decide : ¬ ((1 : Int32) = (0 : Int32)))).1)) ?_
          refine own_go (fun _ => XS.aloadN X73.here hx rfl (hb hby d15_91) rfl rfl) ?_
          have F74 := (Fld.keep F56 Kp73 (ninS ne55 nin0))
          obtain ⟨T75, X75, e75, st75⟩ := getF X73 hx hZ hown (host := "") (Or.inl w_36) Via.refl rfl F74 (g := (mkF m 92 #[.val (.ref q1), .val (.int s1), .val (.int (1 : Int32)), .val (.ref aa14), .val (.int nd62)] [(.ref q1)])) rfl rfl (hb hby d15_92)
          refine own_go st75 ?_
          refine own_go (fun _ => XS.iload X75.here hx rfl (hb hby d15_95) rfl) ?_
          have ib77 : ¬ nd62 < 0 ∧ nd62 < z2 := (own_i2 HN hc63 l_nd62).2.2
          obtain ⟨ii78, hd78, bb78⟩ := H73_0.at ib77
          obtain ⟨cl76, Ar76, q76, S76, N76, H76, G76⟩ := id G73_0
          have hin76 : ¬ (nd62 < 0 ∨ cl76.slots.size ≤ (nd62).toNatClampNeg) := inb_of S76 ib77
          have hat76 : cl76.slots[(nd62).toNatClampNeg]? = some (.int ii78) := Has.at H76 hin76 hd78
          refine own_go (fun _ => X75.iaload hx (j := nd62) (v := (.int ii78)) (by rw [e75]; exact Ar76.1) (State.isArrayOf_alike hZ.alike Ar76.2.1) Ar76.2.2 hin76 hat76 (g := (mkF m 97 #[.val (.ref q1), .val (.int s1), .val (.int (1 : Int32)), .val (.ref aa14), .val (.int nd62)] [(.int nd62), (.ref wi)])) rfl rfl (hb hby d15_97) _) ?_
          refine own_go (fun _ => XS.iloadN X75.here hx rfl (hb hby d15_98) rfl) ?_
          show ∃ t o, Steps p.tables e below (T75.setTop (mkF m 99 #[.val (.ref q1), .val (.int s1), .val (.int (1 : Int32)), .val (.ref aa14), .val (.int nd62)] [(.int s1), (.int ii78)])) t ∧ _
          by_cases hc79 : ii78 = s1
          · refine own_go (fun _ => XS.icmpYes X75.here hx rfl (pc0 := 99) (pc' := 103) rfl (hb hby d15_99) rfl (teq hc79).1 (by decide) (by decide)) ?_
            refine own_go (fun _ => XS.iload X75.here hx rfl (hb hby d15_103) rfl) ?_
            refine own_go (fun _ => XS.iconst X75.here hx rfl (hb hby d15_105)) ?_
            refine own_go (fun _ => XS.iushr X75.here hx rfl (hb hby d15_106) rfl) ?_
            refine own_go (fun _ => XS.istore X75.here hx rfl (hb hby d15_107) rfl (l' := #[.val (.ref q1), .val (.int s1), .val (.int (1 : Int32)), .val (.ref aa14), .val (.int ((nd62.toUInt32 >>> ((1 : Int32) &&& 31).toUInt32).toInt32))]) rfl) ?_
            refine own_go (fun _ => XS.goto X75.here hx rfl (pc0 := 109) (pc' := 76) rfl (hb hby d15_109) (by decide) (by decide)) ?_
            obtain ⟨nd80, e_nd80, b_nd80⟩ : ∃ z : Int32, z = ((nd62.toUInt32 >>> ((1 : Int32) &&& 31).toUInt32).toInt32) ∧ 0 ≤ z.toInt ∧ z.toInt < zN.toInt ∧ z.toInt < 2 := ⟨_, rfl, (have u := own_ush nd62 b_nd62.1; have q := b_nd62; show 0 ≤ _ ∧ _ ∧ _ from ⟨u.1, by omega, by omega⟩)⟩
            show ∃ t o, Steps p.tables e below (T75.setTop (mkF m 76 #[.val (.ref q1), .val (.int s1), .val (.int (1 : Int32)), .val (.ref aa14), .val (.int ((nd62.toUInt32 >>> ((1 : Int32) &&& 31).toUInt32).toInt32))] [])) t ∧ _
            rw [← e_nd80]
            have l_nd80 : nd80 < zN := own_ilt b_nd80.2.1
            show ∃ t o, Steps p.tables e below (T75.setTop (mkF m 76 #[.val (.ref q1), .val (.int s1), .val (.int (1 : Int32)), .val (.ref aa14), .val (.int nd80)] [])) t ∧ _
            refine own_go (fun _ => XS.iload X75.here hx rfl (hb hby d15_76) rfl) ?_
            show ∃ t o, Steps p.tables e below (T75.setTop (mkF m 78 #[.val (.ref q1), .val (.int s1), .val (.int (1 : Int32)), .val (.ref aa14), .val (.int nd80)] [(.int nd80)])) t ∧ _
            by_cases hc81 : (0 : Int32) < nd80
            · refine own_go (fun _ => XS.ifNo X75.here hx rfl (hb hby d15_78) rfl ((if0 _ _).trans (tlt hc81).2.2.2)) ?_
              refine own_go (fun _ => XS.aloadN X75.here hx rfl (hb hby d15_81) rfl rfl) ?_
              refine own_go (fun _ => XS.iload X75.here hx rfl (hb hby d15_82) rfl) ?_
              show ∃ t o, Steps p.tables e below (T75.setTop (mkF m 84 #[.val (.ref q1), .val (.int s1), .val (.int (1 : Int32)), .val (.ref aa14), .val (.int nd80)] [(.int nd80), (.ref q1)])) t ∧ _
              have F82 := (Exa.keep F64 Kp73)
              have F83 := (Fld.keep F65 Kp73 (ninS ne55 nin0))
              have F84 := (Fld.keep F66 Kp73 (ninS ne55 nin0))
              have F85 := (Arv.keep F68 Kp73 (ninS ne67 nin0))
              have F86 := (Arv.keep F70 Kp73 (ninS ne69 nin0))
              have F87 := (Old.keep F71 Kp73 (allS ge54 all0))
              have zl88 : n0 ≤ T73.heap.size := by omega
              obtain ⟨cq89, q89, q89'⟩ := F82.cell
              obtain ⟨_, _, ⟨T89, L89, k89, n89⟩, -, X89, ⟨Lc89, hQ89, l89, y89, z89⟩, st89⟩ := X75.privateBack hx (y := (⟨"com/example/holdback/holdback/sim/EventQueue", "play", "(I)V"⟩ : MethodName)) hown (mvT hZ w_55) (mvT hZ w_56) (mvT hZ (own_selp (y := (⟨"com/example/holdback/holdback/sim/EventQueue", "play", "(I)V"⟩ : MethodName)) w_75 rfl w_57 w_56 (by decide))) (Cond.privateMethod_at (mvP hZ w_57 (args := #[]))) (mvT hZ w_58) (by decide) (backOf (W := 0) (rmPlay l Z a0 hw [] q1 fa fp wi kf kp kw ((ds.set (s1).toNatClampNeg (.double (9218868437227405312 : UInt64)))) ((ls.set (s1).toNatClampNeg (.long (9223372036854775807 : Int64)))) wl2_73 zN z2 nd80 T73.heap n0 zl88 F82 F83 F84 F74 F85 F86 G73_0 F87 Gs20 Gs30 H73_0 HN hc81 l_nd80 (by omega) (by omega) (by omega) (by omega)) hZ w_58 w_6 (by decide) (by decide)) (g := (mkF m 84 #[.val (.ref q1), .val (.int s1), .val (.int (1 : Int32)), .val (.ref aa14), .val (.int nd80)] [(.int nd80), (.ref q1)])) rfl (by rw [hml]; rfl) (Steps.refl _) (a := q1) (by rw [e75]; exact q89) q89' (argsL := [(.int nd80)]) (rest := []) (lenOf pd__28I_29V rfl) rfl (by show 2 * 0 + _ ≤ _; exact Nat.le_of_eq rfl) (hb hby d15_84) (fun _ _ => ⟨rfl, e75, (by decide : 0 + 0 ≤ _), (by decide : 0 + 0 ≤ _)⟩)
              dsimp only [Pt.U, Pt.locs, Pt.cells, Pt.slots] at X89 l89 y89 z89 st89 hQ89
              rw [l89, y89, z89] at X89
              obtain ⟨wl2_89, rfl, Nq89, Kp89, G89_0, H89_0⟩ := hQ89
              have N89 := Fr.app N73 Nq89
              refine own_goT st89 ?_
              have le_89 : T73.heap.size ≤ T89.heap.size := Kp89.1
              have K89 : Keep h0 T89.heap [fa, fp, wi] := Keep.trans K73 Kp89 (allS (Or.inl (List.mem_of_getElem? (i := 2) rfl)) all0)
              refine own_go (fun _ => XS.iloadN X89.here hx rfl (hb hby d15_87) rfl) ?_
              show ∃ t o, Steps p.tables e below (T89.setTop (mkF m 88 #[.val (.ref q1), .val (.int s1), .val (.int (1 : Int32)), .val (.ref aa14), .val (.int nd80)] [(.int (1 : Int32))])) t ∧ _
              refine own_go (fun _ => XS.ifNo X89.here hx rfl (hb hby d15_88) rfl ((if0 _ _).trans (feq (by decide : ¬ ((1 : Int32) = (0 : Int32)))).1)) ?_
              refine own_go (fun _ => XS.aloadN X89.here hx rfl (hb hby d15_91) rfl rfl) ?_
              have F90 := (Fld.keep F74 Kp89 (ninS ne55 nin0))
              obtain ⟨T91, X91, e91, st91⟩ := getF X89 hx hZ hown (host := "") (Or.inl w_36) Via.refl rfl F90 (g := (mkF m 92 #[.val (.ref q1), .val (.int s1), .val (.int (1 : Int32)), .val (.ref aa14), .val (.int nd80)] [(.ref q1)])) rfl rfl (hb hby d15_92)
              refine own_go st91 ?_
              refine own_go (fun _ => XS.iload X91.here hx rfl (hb hby d15_95) rfl) ?_
              have ib93 : ¬ nd80 < 0 ∧ nd80 < z2 := (own_i2 HN hc81 l_nd80).2.2
              obtain ⟨ii94, hd94, bb94⟩ := H89_0.at ib93
              obtain ⟨cl92, Ar92, q92, S92, N92, H92, G92⟩ := id G89_0
              have hin92 : ¬ (nd80 < 0 ∨ cl92.slots.size ≤ (nd80).toNatClampNeg) := inb_of S92 ib93
              have hat92 : cl92.slots[(nd80).toNatClampNeg]? = some (.int ii94) := Has.at H92 hin92 hd94
              refine own_go (fun _ => X91.iaload hx (j := nd80) (v := (.int ii94)) (by rw [e91]; exact Ar92.1) (State.isArrayOf_alike hZ.alike Ar92.2.1) Ar92.2.2 hin92 hat92 (g := (mkF m 97 #[.val (.ref q1), .val (.int s1), .val (.int (1 : Int32)), .val (.ref aa14), .val (.int nd80)] [(.int nd80), (.ref wi)])) rfl rfl (hb hby d15_97) _) ?_
              refine own_go (fun _ => XS.iloadN X91.here hx rfl (hb hby d15_98) rfl) ?_
              show ∃ t o, Steps p.tables e below (T91.setTop (mkF m 99 #[.val (.ref q1), .val (.int s1), .val (.int (1 : Int32)), .val (.ref aa14), .val (.int nd80)] [(.int s1), (.int ii94)])) t ∧ _
              by_cases hc95 : ii94 = s1
              · refine own_go (fun _ => XS.icmpYes X91.here hx rfl (pc0 := 99) (pc' := 103) rfl (hb hby d15_99) rfl (teq hc95).1 (by decide) (by decide)) ?_
                refine own_go (fun _ => XS.iload X91.here hx rfl (hb hby d15_103) rfl) ?_
                refine own_go (fun _ => XS.iconst X91.here hx rfl (hb hby d15_105)) ?_
                refine own_go (fun _ => XS.iushr X91.here hx rfl (hb hby d15_106) rfl) ?_
                refine own_go (fun _ => XS.istore X91.here hx rfl (hb hby d15_107) rfl (l' := #[.val (.ref q1), .val (.int s1), .val (.int (1 : Int32)), .val (.ref aa14), .val (.int ((nd80.toUInt32 >>> ((1 : Int32) &&& 31).toUInt32).toInt32))]) rfl) ?_
                refine own_go (fun _ => XS.goto X91.here hx rfl (pc0 := 109) (pc' := 76) rfl (hb hby d15_109) (by decide) (by decide)) ?_
                obtain ⟨nd96, e_nd96, b_nd96⟩ : ∃ z : Int32, z = ((nd80.toUInt32 >>> ((1 : Int32) &&& 31).toUInt32).toInt32) ∧ 0 ≤ z.toInt ∧ z.toInt < zN.toInt ∧ z.toInt < 1 := ⟨_, rfl, (have u := own_ush nd80 b_nd80.1; have q := b_nd80; show 0 ≤ _ ∧ _ ∧ _ from ⟨u.1, by omega, by omega⟩)⟩
                show ∃ t o, Steps p.tables e below (T91.setTop (mkF m 76 #[.val (.ref q1), .val (.int s1), .val (.int (1 : Int32)), .val (.ref aa14), .val (.int ((nd80.toUInt32 >>> ((1 : Int32) &&& 31).toUInt32).toInt32))] [])) t ∧ _
                rw [← e_nd96]
                have l_nd96 : nd96 < zN := own_ilt b_nd96.2.1
                show ∃ t o, Steps p.tables e below (T91.setTop (mkF m 76 #[.val (.ref q1), .val (.int s1), .val (.int (1 : Int32)), .val (.ref aa14), .val (.int nd96)] [])) t ∧ _
                refine own_go (fun _ => XS.iload X91.here hx rfl (hb hby d15_76) rfl) ?_
                show ∃ t o, Steps p.tables e below (T91.setTop (mkF m 78 #[.val (.ref q1), .val (.int s1), .val (.int (1 : Int32)), .val (.ref aa14), .val (.int nd96)] [(.int nd96)])) t ∧ _
                have hd97 : ¬ ((0 : Int32) < nd96) := (fun q => by rw [Int32.lt_iff_toInt_lt] at q; have := b_nd96; have e0 : (0 : Int32).toInt = 0 := rfl; omega)
                refine own_go (fun _ => XS.ifYes X91.here hx rfl (pc0 := 78) (pc' := 112) rfl (hb hby d15_78) rfl ((if0 _ _).trans (flt hd97).2.2.2) (by decide) (by decide)) ?_
                show ∃ t o, Steps p.tables e below (T91.setTop (mkF m 112 #[.val (.ref q1), .val (.int s1), .val (.int (1 : Int32)), .val (.ref aa14), .val (.int nd96)] [])) t ∧ _
                have F98 := (Arv.keep F85 Kp89 (ninS ne67 nin0))
                have F99 := (Arv.keep F86 Kp89 (ninS ne69 nin0))
                obtain ⟨fs, hr, hrun, hended, hW, hsame⟩ := X91.leave (v := none) (fun _ => rfl)
                refine ⟨_, _, ?_, hrun, hended, _, _, rfl, ?_, ⟨_, rfl⟩, hW, hsame.mono (by decide) (by decide)⟩
                · exact X91.returnOut hx Bd.returns (hb hby d15_112) hr
                · show Q_rmFC1 Z _ _ _ _ _ _ _ _ _ _ _ _ _ _ _ _ _ _ _ h0 n0 _ T91.heap _
                  rw [e91]
                  exact ⟨(ds.set (s1).toNatClampNeg (.double (9218868437227405312 : UInt64))), (ls.set (s1).toNatClampNeg (.long (9223372036854775807 : Int64))), wl2_89, rfl, N89, K89, F98, F99, G89_0, Gs20, Gs30, H89_0⟩
              · refine own_go (fun _ => XS.icmpNo X91.here hx rfl (hb hby d15_99) rfl (feq hc95).1) ?_
                show ∃ t o, Steps p.tables e below (T91.setTop (mkF m 102 #[.val (.ref q1), .val (.int s1), .val (.int (1 : Int32)), .val (.ref aa14), .val (.int nd80)] [])) t ∧ _
                have F100 := (Arv.keep F85 Kp89 (ninS ne67 nin0))
                have F101 := (Arv.keep F86 Kp89 (ninS ne69 nin0))
                obtain ⟨fs, hr, hrun, hended, hW, hsame⟩ := X91.leave (v := none) (fun _ => rfl)
                refine ⟨_, _, ?_, hrun, hended, _, _, rfl, ?_, ⟨_, rfl⟩, hW, hsame.mono (by decide) (by decide)⟩
                · exact X91.returnOut hx Bd.returns (hb hby d15_102) hr
                · show Q_rmFC1 Z _ _ _ _ _ _ _ _ _ _ _ _ _ _ _ _ _ _ _ h0 n0 _ T91.heap _
                  rw [e91]
                  exact ⟨(ds.set (s1).toNatClampNeg (.double (9218868437227405312 : UInt64))), (ls.set (s1).toNatClampNeg (.long (9223372036854775807 : Int64))), wl2_89, rfl, N89, K89, F100, F101, G89_0, Gs20, Gs30, H89_0⟩
            · refine own_go (fun _ => XS.ifYes X75.here hx rfl (pc0 := 78) (pc' := 112) rfl (hb hby d15_78) rfl ((if0 _ _).trans (flt hc81).2.2.2) (by decide) (by decide)) ?_
              show ∃ t o, Steps p.tables e below (T75.setTop (mkF m 112 #[.val (.ref q1), .val (.int s1), .val (.int (1 : Int32)), .val (.ref aa14), .val (.int nd80)] [])) t ∧ _
              have F102 := (Arv.keep F68 Kp73 (ninS ne67 nin0))
              have F103 := (Arv.keep F70 Kp73 (ninS ne69 nin0))
              obtain ⟨fs, hr, hrun, hended, hW, hsame⟩ := X75.leave (v := none) (fun _ => rfl)
              refine ⟨_, _, ?_, hrun, hended, _, _, rfl, ?_, ⟨_, rfl⟩, hW, hsame.mono (by decide) (by decide)⟩
              · exact X75.returnOut hx Bd.returns (hb hby d15_112) hr
              · show Q_rmFC1 Z _ _ _ _ _ _ _ _ _ _ _ _ _ _ _ _ _ _ _ h0 n0 _ T75.heap _
                rw [e75]
                exact ⟨(ds.set (s1).toNatClampNeg (.double (9218868437227405312 : UInt64))), (ls.set (s1).toNatClampNeg (.long (9223372036854775807 : Int64))), wl2_73, rfl, N73, K73, F102, F103, G73_0, Gs20, Gs30, H73_0⟩
          · refine own_go (fun _ => XS.icmpNo X75.here hx rfl (hb hby d15_99) rfl (feq hc79).1) ?_
            show ∃ t o, Steps p.tables e below (T75.setTop (mkF m 102 #[.val (.ref q1), .val (.int s1), .val (.int (1 : Int32)), .val (.ref aa14), .val (.int nd62)] [])) t ∧ _
            have F104 := (Arv.keep F68 Kp73 (ninS ne67 nin0))
            have F105 := (Arv.keep F70 Kp73 (ninS ne69 nin0))
            obtain ⟨fs, hr, hrun, hended, hW, hsame⟩ := X75.leave (v := none) (fun _ => rfl)
            refine ⟨_, _, ?_, hrun, hended, _, _, rfl, ?_, ⟨_, rfl⟩, hW, hsame.mono (by decide) (by decide)⟩
            · exact X75.returnOut hx Bd.returns (hb hby d15_102) hr
            · show Q_rmFC1 Z _ _ _ _ _ _ _ _ _ _ _ _ _ _ _ _ _ _ _ h0 n0 _ T75.heap _
              rw [e75]
              exact ⟨(ds.set (s1).toNatClampNeg (.double (9218868437227405312 : UInt64))), (ls.set (s1).toNatClampNeg (.long (9223372036854775807 : Int64))), wl2_73, rfl, N73, K73, F104, F105, G73_0, Gs20, Gs30, H73_0⟩
        · refine own_go (fun _ => XS.ifYes X57.here hx rfl (pc0 := 78) (pc' := 112) rfl (hb hby d15_78) rfl ((if0 _ _).trans (flt hc63).2.2.2) (by decide) (by decide)) ?_
          show ∃ t o, Steps p.tables e below (T57.setTop (mkF m 112 #[.val (.ref q1), .val (.int s1), .val (.int (1 : Int32)), .val (.ref aa14), .val (.int nd62)] [])) t ∧ _
          have ne106 : fa ≠ wi := own_ne (by omega)
          have F107 := (Arv.keep F47 Kp53 (ninS ne106 nin0))
          have ne108 : fp ≠ wi := own_ne (by omega)
          have F109 := (Arv.keep V31 Kp53 (ninS ne108 nin0))
          obtain ⟨fs, hr, hrun, hended, hW, hsame⟩ := X57.leave (v := none) (fun _ => rfl)
          refine ⟨_, _, ?_, hrun, hended, _, _, rfl, ?_, ⟨_, rfl⟩, hW, hsame.mono (by decide) (by decide)⟩
          · exact X57.returnOut hx Bd.returns (hb hby d15_112) hr
          · show Q_rmFC1 Z _ _ _ _ _ _ _ _ _ _ _ _ _ _ _ _ _ _ _ h0 n0 _ T57.heap _
            rw [e57]
            exact ⟨(ds.set (s1).toNatClampNeg (.double (9218868437227405312 : UInt64))), (ls.set (s1).toNatClampNeg (.long (9223372036854775807 : Int64))), wl2_53, rfl, N53, K53, F107, F109, G53_0, Gs20, Gs30, H53_0⟩
      · refine own_go (fun _ => XS.icmpNo X57.here hx rfl (hb hby d15_99) rfl (feq hc61).1) ?_
        show ∃ t o, Steps p.tables e below (T57.setTop (mkF m 102 #[.val (.ref q1), .val (.int s1), .val (.int (1 : Int32)), .val (.ref aa14), .val (.int nd40)] [])) t ∧ _
        have ne110 : fa ≠ wi := own_ne (by omega)
        have F111 := (Arv.keep F47 Kp53 (ninS ne110 nin0))
        have ne112 : fp ≠ wi := own_ne (by omega)
        have F113 := (Arv.keep V31 Kp53 (ninS ne112 nin0))
        obtain ⟨fs, hr, hrun, hended, hW, hsame⟩ := X57.leave (v := none) (fun _ => rfl)
        refine ⟨_, _, ?_, hrun, hended, _, _, rfl, ?_, ⟨_, rfl⟩, hW, hsame.mono (by decide) (by decide)⟩
        · exact X57.returnOut hx Bd.returns (hb hby d15_102) hr
        · show Q_rmFC1 Z _ _ _ _ _ _ _ _ _ _ _ _ _ _ _ _ _ _ _ h0 n0 _ T57.heap _
          rw [e57]
          exact ⟨(ds.set (s1).toNatClampNeg (.double (9218868437227405312 : UInt64))), (ls.set (s1).toNatClampNeg (.long (9223372036854775807 : Int64))), wl2_53, rfl, N53, K53, F111, F113, G53_0, Gs20, Gs30, H53_0⟩
    · refine own_go (fun _ => XS.ifYes X35.here hx rfl (pc0 := 78) (pc' := 112) rfl (hb hby d15_78) rfl ((if0 _ _).trans (flt hc41).2.2.2) (by decide) (by decide)) ?_
      show ∃ t o, Steps p.tables e below (T35.setTop (mkF m 112 #[.val (.ref q1), .val (.int s1), .val (.int (1 : Int32)), .val (.ref aa14), .val (.int nd40)] [])) t ∧ _
      have ne114 : fa ≠ fp := own_ne (by omega)
      have F115 := (Arv.other V21 W31 ne114)
      have ne116 : wi ≠ fa := own_ne (by omega)
      have ne117 : wi ≠ fp := own_ne (by omega)
      have F118 := (Arv.other (Arv.other P7 W21 ne116) W31 ne117)
      obtain ⟨fs, hr, hrun, hended, hW, hsame⟩ := X35.leave (v := none) (fun _ => rfl)
      refine ⟨_, _, ?_, hrun, hended, _, _, rfl, ?_, ⟨_, rfl⟩, hW, hsame.mono (by decide) (by decide)⟩
      · exact X35.returnOut hx Bd.returns (hb hby d15_112) hr
      · show Q_rmFC1 Z _ _ _ _ _ _ _ _ _ _ _ _ _ _ _ _ _ _ _ h0 n0 _ T35.heap _
        rw [e35]
        exact ⟨(ds.set (s1).toNatClampNeg (.double (9218868437227405312 : UInt64))), (ls.set (s1).toNatClampNeg (.long (9223372036854775807 : Int64))), wl, rfl, N31, K31, F115, V31, F118, Gs20, Gs30, GW⟩
  · refine own_go (fun _ => XS.ifYes X15.here hx rfl (pc0 := 11) (pc' := 35) rfl (hb hby d15_11) rfl ((if0 _ _).trans (feq hc16).2) (by decide) (by decide)) ?_
    refine own_go (fun _ => XS.aloadN X15.here hx rfl (hb hby d15_35) rfl rfl) ?_
    obtain ⟨T119, X119, e119, st119⟩ := getF X15 hx hZ hown (host := "") (Or.inl w_30) Via.refl e15 P2 (g := (mkF m 36 #[.val (.ref q1), .val (.int s1), .val (.int (1 : Int32)), .val (.ref aa14), .unset] [(.ref q1)])) rfl rfl (hb hby d15_36)
    refine own_go st119 ?_
    refine own_go (fun _ => XS.iloadN X119.here hx rfl (hb hby d15_39) rfl) ?_
    refine own_go (fun _ => XS.aloadN X119.here hx rfl (hb hby d15_40) rfl rfl) ?_
    obtain ⟨T120, X120, e120, st120⟩ := own_getR X119 hx hZ hown (hw _ (List.mem_of_getElem? (i := 103) rfl)) e119 SF1_14 (g := (mkF m 41 #[.val (.ref q1), .val (.int s1), .val (.int (1 : Int32)), .val (.ref aa14), .unset] [(.ref aa14), (.int s1), (.ref fa)])) rfl rfl (hb hby d15_41)
    refine own_go st120 ?_
    refine own_go (fun _ => XS.aloadN X120.here hx rfl (hb hby d15_44) rfl rfl) ?_
    obtain ⟨T121, X121, e121, st121⟩ := own_getR X120 hx hZ hown w_104 e120 SF4_14 (g := (mkF m 45 #[.val (.ref q1), .val (.int s1), .val (.int (1 : Int32)), .val (.ref aa14), .unset] [(.ref aa14), (.ref am_14), (.int s1), (.ref fa)])) rfl rfl (hb hby d15_45)
    refine own_go st121 ?_
    show ∃ t o, Steps p.tables e below (T121.setTop (mkF m 48 #[.val (.ref q1), .val (.int s1), .val (.int (1 : Int32)), .val (.ref aa14), .unset] [(.int f1_14), (.ref am_14), (.int s1), (.ref fa)])) t ∧ _
    have ib123 : ¬ f1_14 < 0 ∧ f1_14 < (8 : Int32) := SB1_14
    obtain ⟨dd124, hd124, nn124⟩ := SG1_14.at ib123
    obtain ⟨cl122, Ar122, q122, S122, N122, H122, G122⟩ := id SA1_14
    have hin122 : ¬ (f1_14 < 0 ∨ cl122.slots.size ≤ (f1_14).toNatClampNeg) := inb_of S122 ib123
    have hat122 : cl122.slots[(f1_14).toNatClampNeg]? = some (.double dd124) := Has.at H122 hin122 hd124
    refine own_go (fun _ => X121.daload hx (j := f1_14) (v := (.double dd124)) (by rw [e121]; exact Ar122.1) (State.isArrayOf_alike hZ.alike Ar122.2.1) Ar122.2.2 hin122 hat122 (g := (mkF m 48 #[.val (.ref q1), .val (.int s1), .val (.int (1 : Int32)), .val (.ref aa14), .unset] [(.int f1_14), (.ref am_14), (.int s1), (.ref fa)])) rfl rfl (hb hby d15_48) _) ?_
    obtain ⟨cl125, Ar125, q125, S125, N125, H125, G125⟩ := id P5
    have ib126 : ¬ s1 < 0 ∧ s1 < zN := hs
    have Gs127 : own_G own_pd (.double (0 : UInt64)) zN (ds.set (s1).toNatClampNeg (.double dd124)) := own_G.set GD _ ⟨_, rfl, nn124⟩
    have hin125 : ¬ (s1 < 0 ∨ cl125.slots.size ≤ (s1).toNatClampNeg) := inb_of S125 ib126
    obtain ⟨T128, h128, X128, e128, W128, st128⟩ := stD X121 hx hZ e121 Ar125 (j := s1) hin125 (g := (mkF m 49 #[.val (.ref q1), .val (.int s1), .val (.int (1 : Int32)), .val (.ref aa14), .unset] [(.double dd124), (.int s1), (.ref fa)])) rfl rfl (hb hby d15_49)
    refine own_go st128 ?_
    have ge129 : n0 ≤ fa := by omega
    have le_128 : h0.size ≤ h128.size := Nat.le_of_eq W128.size.symm
    have K128 : Keep h0 h128 [fa, fp, wi] := Keep.wr (Keep.refl h0 [fa, fp, wi]) W128 (Or.inl (List.mem_of_getElem? (i := 0) rfl))
    have N128 := Fr.snoc X128 N0 ge129
    have V128 : Arv Z h128 fa kf .double zN (ds.set (s1).toNatClampNeg (.double dd124)) (.double (0 : UInt64)) := Arv.set Ar125 q125 S125 N125 H125 G125 rfl W128 (s1).toNatClampNeg rfl (GD.len ib126)
    refine own_go (fun _ => XS.aloadN X128.here hx rfl (hb hby d15_50) rfl rfl) ?_
    have ne130 : q1 ≠ fa := own_ne (by omega)
    have F131 := (Fld.other W128 P3 (Or.inl ne130))
    obtain ⟨T132, X132, e132, st132⟩ := getF X128 hx hZ hown (host := "") (Or.inl w_33) Via.refl e128 F131 (g := (mkF m 51 #[.val (.ref q1), .val (.int s1), .val (.int (1 : Int32)), .val (.ref aa14), .unset] [(.ref q1)])) rfl rfl (hb hby d15_51)
    refine own_go st132 ?_
    refine own_go (fun _ => XS.iloadN X132.here hx rfl (hb hby d15_54) rfl) ?_
    refine own_go (fun _ => XS.aloadN X132.here hx rfl (hb hby d15_55) rfl rfl) ?_
    have ne133 : aa14 ≠ fa := own_ne (by omega)
    have F134 := (Fld.other W128 SF2_14 (Or.inl ne133))
    obtain ⟨T135, X135, e135, st135⟩ := own_getR X132 hx hZ hown (hw _ (List.mem_of_getElem? (i := 105) rfl)) e132 F134 (g := (mkF m 56 #[.val (.ref q1), .val (.int s1), .val (.int (1 : Int32)), .val (.ref aa14), .unset] [(.ref aa14), (.int s1), (.ref fp)])) rfl rfl (hb hby d15_56)
    refine own_go st135 ?_
    refine own_go (fun _ => XS.aloadN X135.here hx rfl (hb hby d15_59) rfl rfl) ?_
    show ∃ t o, Steps p.tables e below (T135.setTop (mkF m 60 #[.val (.ref q1), .val (.int s1), .val (.int (1 : Int32)), .val (.ref aa14), .unset] [(.ref aa14), (.ref ap_14), (.int s1), (.ref fp)])) t ∧ _
    have F136 := (Fld.other W128 SF4_14 (Or.inl ne133))
    obtain ⟨T137, X137, e137, st137⟩ := own_getR X135 hx hZ hown w_104 e135 F136 (g := (mkF m 60 #[.val (.ref q1), .val (.int s1), .val (.int (1 : Int32)), .val (.ref aa14), .unset] [(.ref aa14), (.ref ap_14), (.int s1), (.ref fp)])) rfl rfl (hb hby d15_60)
    refine own_go st137 ?_
    have ne138 : ap_14 ≠ fa := own_ne (by omega)
    have F139 := (Arv.other SA2_14 W128 ne138)
    have ib141 : ¬ f1_14 < 0 ∧ f1_14 < (8 : Int32) := SB1_14
    obtain ⟨jj142, hd142⟩ := SG2_14.at ib141
    obtain ⟨cl140, Ar140, q140, S140, N140, H140, G140⟩ := id F139
    have hin140 : ¬ (f1_14 < 0 ∨ cl140.slots.size ≤ (f1_14).toNatClampNeg) := inb_of S140 ib141
    have hat140 : cl140.slots[(f1_14).toNatClampNeg]? = some (.long jj142) := Has.at H140 hin140 hd142
    refine own_go (fun _ => X137.laload hx (j := f1_14) (v := (.long jj142)) (by rw [e137]; exact Ar140.1) (State.isArrayOf_alike hZ.alike Ar140.2.1) Ar140.2.2 hin140 hat140 (g := (mkF m 63 #[.val (.ref q1), .val (.int s1), .val (.int (1 : Int32)), .val (.ref aa14), .unset] [(.int f1_14), (.ref ap_14), (.int s1), (.ref fp)])) rfl rfl (hb hby d15_63) _) ?_
    have ne143 : fp ≠ fa := own_ne (by omega)
    have F144 := (Arv.other P6 W128 ne143)
    obtain ⟨cl145, Ar145, q145, S145, N145, H145, G145⟩ := id F144
    have ib146 : ¬ s1 < 0 ∧ s1 < zN := hs
    have Gs147 : own_G own_pj (.long (0 : Int64)) zN (ls.set (s1).toNatClampNeg (.long jj142)) := own_G.set GJ _ ⟨_, rfl⟩
    have hin145 : ¬ (s1 < 0 ∨ cl145.slots.size ≤ (s1).toNatClampNeg) := inb_of S145 ib146
    obtain ⟨T148, h148, X148, e148, W148, st148⟩ := stJ X137 hx hZ e137 Ar145 (j := s1) hin145 (g := (mkF m 64 #[.val (.ref q1), .val (.int s1), .val (.int (1 : Int32)), .val (.ref aa14), .unset] [(.long jj142), (.int s1), (.ref fp)])) rfl rfl (hb hby d15_64)
    refine own_go st148 ?_
    have ge149 : n0 ≤ fp := by omega
    have le_148 : h128.size ≤ h148.size := Nat.le_of_eq W148.size.symm
    have K148 : Keep h0 h148 [fa, fp, wi] := Keep.wr K128 W148 (Or.inl (List.mem_of_getElem? (i := 1) rfl))
    have N148 := Fr.snoc X148 N128 ge149
    have V148 : Arv Z h148 fp kp .long zN (ls.set (s1).toNatClampNeg (.long jj142)) (.long (0 : Int64)) := Arv.set Ar145 q145 S145 N145 H145 G145 rfl W148 (s1).toNatClampNeg rfl (GJ.len ib146)
    refine own_go (fun _ => XS.aloadN X148.here hx rfl (hb hby d15_65) rfl rfl) ?_
    have ne150 : q1 ≠ fp := own_ne (by omega)
    have F151 := (Fld.other W148 (Fld.other W128 P8 (Or.inl ne130)) (Or.inl ne150))
    obtain ⟨T152, X152, e152, st152⟩ := getF X148 hx hZ hown (host := "") (Or.inl w_27) Via.refl e148 F151 (g := (mkF m 66 #[.val (.ref q1), .val (.int s1), .val (.int (1 : Int32)), .val (.ref aa14), .unset] [(.ref q1)])) rfl rfl (hb hby d15_66)
    refine own_go st152 ?_
    have ne153 : ss ≠ fa := own_ne (by omega)
    have ne154 : ss ≠ fp := own_ne (by omega)
    have F155 := (Arv.other (Arv.other P9 W128 ne153) W148 ne154)
    obtain ⟨cl156, Ar156, q156, S156, N156, H156, G156⟩ := id F155
    have ln156 : cl156.slots.size.toInt32 = zN := len_of S156 N156
    have al156 := X152.arraylength hx (by rw [e152]; exact Ar156.1) (State.isArrayOf_alike hZ.alike Ar156.2.1) (g := (mkF m 69 #[.val (.ref q1), .val (.int s1), .val (.int (1 : Int32)), .val (.ref aa14), .unset] [(.ref ss)])) rfl rfl (hb hby d15_69)
    rw [ln156] at al156
    refine own_go al156 ?_
    refine own_go (fun _ => XS.iloadN X152.here hx rfl (hb hby d15_70) rfl) ?_
    refine own_go (fun _ => XS.iadd X152.here hx rfl (hb hby d15_71) rfl) ?_
    show ∃ t o, Steps p.tables e below (T152.setTop (mkF m 72 #[.val (.ref q1), .val (.int s1), .val (.int (1 : Int32)), .val (.ref aa14), .unset] [(.int (zN + s1))])) t ∧ _
    refine own_go (fun _ => XS.iconst X152.here hx rfl (hb hby d15_72)) ?_
    refine own_go (fun _ => XS.iushr X152.here hx rfl (hb hby d15_73) rfl) ?_
    refine own_go (fun _ => XS.istore X152.here hx rfl (hb hby d15_74) rfl (l' := #[.val (.ref q1), .val (.int s1), .val (.int (1 : Int32)), .val (.ref aa14), .val (.int (((zN + s1).toUInt32 >>> ((1 : Int32) &&& 31).toUInt32).toInt32))]) rfl) ?_
    obtain ⟨nd157, e_nd157, b_nd157⟩ : ∃ z : Int32, z = (((zN + s1).toUInt32 >>> ((1 : Int32) &&& 31).toUInt32).toInt32) ∧ 0 ≤ z.toInt ∧ z.toInt < zN.toInt ∧ z.toInt < 8 := ⟨_, rfl, (have u := own_nd0 HN hs; have q := HN.int; show 0 ≤ _ ∧ _ ∧ _ from ⟨u.1, u.2, by omega⟩)⟩
    show ∃ t o, Steps p.tables e below (T152.setTop (mkF m 76 #[.val (.ref q1), .val (.int s1), .val (.int (1 : Int32)), .val (.ref aa14), .val (.int (((zN + s1).toUInt32 >>> ((1 : Int32) &&& 31).toUInt32).toInt32))] [])) t ∧ _
    rw [← e_nd157]
    have l_nd157 : nd157 < zN := own_ilt b_nd157.2.1
    show ∃ t o, Steps p.tables e below (T152.setTop (mkF m 76 #[.val (.ref q1), .val (.int s1), .val (.int (1 : Int32)), .val (.ref aa14), .val (.int nd157)] [])) t ∧ _
    refine own_go (fun _ => XS.iload X152.here hx rfl (hb hby d15_76) rfl) ?_
    show ∃ t o, Steps p.tables e below (T152.setTop (mkF m 78 #[.val (.ref q1), .val (.int s1), .val (.int (1 : Int32)), .val (.ref aa14), .val (.int nd157)] [(.int nd157)])) t ∧ _
    by_cases hc158 : (0 : Int32) < nd157
    · refine own_go (fun _ => XS.ifNo X152.here hx rfl (hb hby d15_78) rfl ((if0 _ _).trans (tlt hc158).2.2.2)) ?_
      refine own_go (fun _ => XS.aloadN X152.here hx rfl (hb hby d15_81) rfl rfl) ?_
      refine own_go (fun _ => XS.iload X152.here hx rfl (hb hby d15_82) rfl) ?_
      show ∃ t o, Steps p.tables e below (T152.setTop (mkF m 84 #[.val (.ref q1), .val (.int s1), .val (.int (1 : Int32)), .val (.ref aa14), .val (.int nd157)] [(.int nd157), (.ref q1)])) t ∧ _
      have F159 := (Exa.wr W148 (Exa.wr W128 P1))
      have F160 := (Fld.other W148 (Fld.other W128 P2 (Or.inl ne130)) (Or.inl ne150))
      have F161 := (Fld.other W148 F131 (Or.inl ne150))
      have F162 := (Fld.other W148 (Fld.other W128 P4 (Or.inl ne130)) (Or.inl ne150))
      have ne163 : fa ≠ fp := own_ne (by omega)
      have F164 := (Arv.other V128 W148 ne163)
      have ne165 : wi ≠ fa := own_ne (by omega)
      have ne166 : wi ≠ fp := own_ne (by omega)
      have F167 := (Arv.other (Arv.other P7 W128 ne165) W148 ne166)
      have F168 := (Old.wr (Old.wr OLD W128 ge129) W148 ge149)
      have zl169 : n0 ≤ h148.size := by omega
      obtain ⟨cq170, q170, q170'⟩ := F159.cell
      obtain ⟨_, _, ⟨T170, L170, k170, n170⟩, -, X170, ⟨Lc170, hQ170, l170, y170, z170⟩, st170⟩ := X152.privateBack hx (y := (⟨"com/example/holdback/holdback/sim/EventQueue", "play", "(I)V"⟩ : MethodName)) hown (mvT hZ w_55) (mvT hZ w_56) (mvT hZ (own_selp (y := (⟨"com/example/holdback/holdback/sim/EventQueue", "play", "(I)V"⟩ : MethodName)) w_75 rfl w_57 w_56 (by decide))) (Cond.privateMethod_at (mvP hZ w_57 (args := #[]))) (mvT hZ w_58) (by decide) (backOf (W := 0) (rmPlay l Z a0 hw [] q1 fa fp wi kf kp kw ((ds.set (s1).toNatClampNeg (.double dd124))) ((ls.set (s1).toNatClampNeg (.long jj142))) wl zN z2 nd157 h148 n0 zl169 F159 F160 F161 F162 F164 V148 F167 F168 Gs127 Gs147 GW HN hc158 l_nd157 (by omega) (by omega) (by omega) (by omega)) hZ w_58 w_6 (by decide) (by decide)) (g := (mkF m 84 #[.val (.ref q1), .val (.int s1), .val (.int (1 : Int32)), .val (.ref aa14), .val (.int nd157)] [(.int nd157), (.ref q1)])) rfl (by rw [hml]; rfl) (Steps.refl _) (a := q1) (by rw [e152]; exact q170) q170' (argsL := [(.int nd157)]) (rest := []) (lenOf pd__28I_29V rfl) rfl (by show 2 * 0 + _ ≤ _; exact Nat.le_of_eq rfl) (hb hby d15_84) (fun _ _ => ⟨rfl, e152, (by decide : 0 + 0 ≤ _), (by decide : 0 + 0 ≤ _)⟩)
      dsimp only [Pt.U, Pt.locs, Pt.cells, Pt.slots] at X170 l170 y170 z170 st170 hQ170
      rw [l170, y170, z170] at X170
      obtain ⟨wl2_170, rfl, Nq170, Kp170, G170_0, H170_0⟩ := hQ170
      have N170 := Fr.app N148 Nq170
      refine own_goT st170 ?_
      have le_170 : h148.size ≤ T170.heap.size := Kp170.1
      have ge171 : n0 ≤ wi := by omega
      have K170 : Keep h0 T170.heap [fa, fp, wi] := Keep.trans K148 Kp170 (allS (Or.inl (List.mem_of_getElem? (i := 2) rfl)) all0)
      refine own_go (fun _ => XS.iloadN X170.here hx rfl (hb hby d15_87) rfl) ?_
      show ∃ t o, Steps p.tables e below (T170.setTop (mkF m 88 #[.val (.ref q1), .val (.int s1), .val (.int (1 : Int32)), .val (.ref aa14), .val (.int nd157)] [(.int (1 : Int32))])) t ∧ _
      refine own_go (fun _ => XS.ifNo X170.here hx rfl (hb hby d15_88) rfl ((if0 _ _).trans (feq (by decide : ¬ ((1 : Int32) = (0 : Int32)))).1)) ?_
      refine own_go (fun _ => XS.aloadN X170.here hx rfl (hb hby d15_91) rfl rfl) ?_
      have ne172 : q1 ≠ wi := own_ne (by omega)
      have F173 := (Fld.keep F162 Kp170 (ninS ne172 nin0))
      obtain ⟨T174, X174, e174, st174⟩ := getF X170 hx hZ hown (host := "") (Or.inl w_36) Via.refl rfl F173 (g := (mkF m 92 #[.val (.ref q1), .val (.int s1), .val (.int (1 : Int32)), .val (.ref aa14), .val (.int nd157)] [(.ref q1)])) rfl rfl (hb hby d15_92)
      refine own_go st174 ?_
      refine own_go (fun _ => XS.iload X174.here hx rfl (hb hby d15_95) rfl) ?_
      have ib176 : ¬ nd157 < 0 ∧ nd157 < z2 := (own_i2 HN hc158 l_nd157).2.2
      obtain ⟨ii177, hd177, bb177⟩ := H170_0.at ib176
      obtain ⟨cl175, Ar175, q175, S175, N175, H175, G175⟩ := id G170_0
      have hin175 : ¬ (nd157 < 0 ∨ cl175.slots.size ≤ (nd157).toNatClampNeg) := inb_of S175 ib176
      have hat175 : cl175.slots[(nd157).toNatClampNeg]? = some (.int ii177) := Has.at H175 hin175 hd177
      refine own_go (fun _ => X174.iaload hx (j := nd157) (v := (.int ii177)) (by rw [e174]; exact Ar175.1) (State.isArrayOf_alike hZ.alike Ar175.2.1) Ar175.2.2 hin175 hat175 (g := (mkF m 97 #[.val (.ref q1), .val (.int s1), .val (.int (1 : Int32)), .val (.ref aa14), .val (.int nd157)] [(.int nd157), (.ref wi)])) rfl rfl (hb hby d15_97) _) ?_
      refine own_go (fun _ => XS.iloadN X174.here hx rfl (hb hby d15_98) rfl) ?_
      show ∃ t o, Steps p.tables e below (T174.setTop (mkF m 99 #[.val (.ref q1), .val (.int s1), .val (.int (1 : Int32)), .val (.ref aa14), .val (.int nd157)] [(.int s1), (.int ii177)])) t ∧ _
      by_cases hc178 : ii177 = s1
      · refine own_go (fun _ => XS.icmpYes X174.here hx rfl (pc0 := 99) (pc' := 103) rfl (hb hby d15_99) rfl (teq hc178).1 (by decide) (by decide)) ?_
        refine own_go (fun _ => XS.iload X174.here hx rfl (hb hby d15_103) rfl) ?_
        refine own_go (fun _ => XS.iconst X174.here hx rfl (hb hby d15_105)) ?_
        refine own_go (fun _ => XS.iushr X174.here hx rfl (hb hby d15_106) rfl) ?_
        refine own_go (fun _ => XS.istore X174.here hx rfl (hb hby d15_107) rfl (l' := #[.val (.ref q1), .val (.int s1), .val (.int (1 : Int32)), .val (.ref aa14), .val (.int ((nd157.toUInt32 >>> ((1 : Int32) &&& 31).toUInt32).toInt32))]) rfl) ?_
        refine own_go (fun _ => XS.goto X174.here hx rfl (pc0 := 109) (pc' := 76) rfl (hb hby d15_109) (by decide) (by decide)) ?_
        obtain ⟨nd179, e_nd179, b_nd179⟩ : ∃ z : Int32, z = ((nd157.toUInt32 >>> ((1 : Int32) &&& 31).toUInt32).toInt32) ∧ 0 ≤ z.toInt ∧ z.toInt < zN.toInt ∧ z.toInt < 4 := ⟨_, rfl, (have u := own_ush nd157 b_nd157.1; have q := b_nd157; show 0 ≤ _ ∧ _ ∧ _ from ⟨u.1, by omega, by omega⟩)⟩
        show ∃ t o, Steps p.tables e below (T174.setTop (mkF m 76 #[.val (.ref q1), .val (.int s1), .val (.int (1 : Int32)), .val (.ref aa14), .val (.int ((nd157.toUInt32 >>> ((1 : Int32) &&& 31).toUInt32).toInt32))] [])) t ∧ _
        rw [← e_nd179]
        have l_nd179 : nd179 < zN := own_ilt b_nd179.2.1
        show ∃ t o, Steps p.tables e below (T174.setTop (mkF m 76 #[.val (.ref q1), .val (.int s1), .val (.int (1 : Int32)), .val (.ref aa14), .val (.int nd179)] [])) t ∧ _
        refine own_go (fun _ => XS.iload X174.here hx rfl (hb hby d15_76) rfl) ?_
        show ∃ t o, Steps p.tables e below (T174.setTop (mkF m 78 #[.val (.ref q1), .val (.int s1), .val (.int (1 : Int32)), .val (.ref aa14), .val (.int nd179)] [(.int nd179)])) t ∧ _
        by_cases hc180 : (0 : Int32) < nd179
        · refine own_go (fun _ => XS.ifNo X174.here hx rfl (hb hby d15_78) rfl ((if0 _ _).trans (tlt hc180).2.2.2)) ?_
          refine own_go (fun _ => XS.aloadN X174.here hx rfl (hb hby d15_81) rfl rfl) ?_
          refine own_go (fun _ => XS.iload X174.here hx rfl (hb hby d15_82) rfl) ?_
          show ∃ t o, Steps p.tables e below (T174.setTop (mkF m 84 #[.val (.ref q1), .val (.int s1), .val (.int (1 : Int32)), .val (.ref aa14), .val (.int nd179)] [(.int nd179), (.ref q1)])) t ∧ _
          have F181 := (Exa.keep F159 Kp170)
          have F182 := (Fld.keep F160 Kp170 (ninS ne172 nin0))
          have F183 := (Fld.keep F161 Kp170 (ninS ne172 nin0))
          have ne184 : fa ≠ wi := own_ne (by omega)
          have F185 := (Arv.keep F164 Kp170 (ninS ne184 nin0))
          have ne186 : fp ≠ wi := own_ne (by omega)
          have F187 := (Arv.keep V148 Kp170 (ninS ne186 nin0))
          have F188 := (Old.keep F168 Kp170 (allS ge171 all0))
          have zl189 : n0 ≤ T170.heap.size := by omega
          obtain ⟨cq190, q190, q190'⟩ := F181.cell
          obtain ⟨_, _, ⟨T190, L190, k190, n190⟩, -, X190, ⟨Lc190, hQ190, l190, y190, z190⟩, st190⟩ := X174.privateBack hx (y := (⟨"com/example/holdback/holdback/sim/EventQueue", "play", "(I)V"⟩ : MethodName)) hown (mvT hZ w_55) (mvT hZ w_56) (mvT hZ (own_selp (y := (⟨"com/example/holdback/holdback/sim/EventQueue", "play", "(I)V"⟩ : MethodName)) w_75 rfl w_57 w_56 (by decide))) (Cond.privateMethod_at (mvP hZ w_57 (args := #[]))) (mvT hZ w_58) (by decide) (backOf (W := 0) (rmPlay l Z a0 hw [] q1 fa fp wi kf kp kw ((ds.set (s1).toNatClampNeg (.double dd124))) ((ls.set (s1).toNatClampNeg (.long jj142))) wl2_170 zN z2 nd179 T170.heap n0 zl189 F181 F182 F183 F173 F185 F187 G170_0 F188 Gs127 Gs147 H170_0 HN hc180 l_nd179 (by omega) (by omega) (by omega) (by omega)) hZ w_58 w_6 (by decide) (by decide)) (g := (mkF m 84 #[.val (.ref q1), .val (.int s1), .val (.int (1 : Int32)), .val (.ref aa14), .val (.int nd179)] [(.int nd179), (.ref q1)])) rfl (by rw [hml]; rfl) (Steps.refl _) (a := q1) (by rw [e174]; exact q190) q190' (argsL := [(.int nd179)]) (rest := []) (lenOf pd__28I_29V rfl) rfl (by show 2 * 0 + _ ≤ _; exact Nat.le_of_eq rfl) (hb hby d15_84) (fun _ _ => ⟨rfl, e174, (by decide : 0 + 0 ≤ _), (by decide : 0 + 0 ≤ _)⟩)
          dsimp only [Pt.U, Pt.locs, Pt.cells, Pt.slots] at X190 l190 y190 z190 st190 hQ190
          rw [l190, y190, z190] at X190
          obtain ⟨wl2_190, rfl, Nq190, Kp190, G190_0, H190_0⟩ := hQ190
          have N190 := Fr.app N170 Nq190
          refine own_goT st190 ?_
          have le_190 : T170.heap.size ≤ T190.heap.size := Kp190.1
          have K190 : Keep h0 T190.heap [fa, fp, wi] := Keep.trans K170 Kp190 (allS (Or.inl (List.mem_of_getElem? (i := 2) rfl)) all0)
          refine own_go (fun _ => XS.iloadN X190.here hx rfl (hb hby d15_87) rfl) ?_
          show ∃ t o, Steps p.tables e below (T190.setTop (mkF m 88 #[.val (.ref q1), .val (.int s1), .val (.int (1 : Int32)), .val (.ref aa14), .val (.int nd179)] [(.int (1 : Int32))])) t ∧ _
          refine own_go (fun _ => XS.ifNo X190.here hx rfl (hb hby d15_88) rfl ((if0 _ _).trans (feq (by decide : ¬ ((1 : Int32) = (0 : Int32)))).1)) ?_
          refine own_go (fun _ => XS.aloadN X190.here hx rfl (hb hby d15_91) rfl rfl) ?_
          have F191 := (Fld.keep F173 Kp190 (ninS ne172 nin0))
          obtain ⟨T192, X192, e192, st192⟩ := getF X190 hx hZ hown (host := "") (Or.inl w_36) Via.refl rfl F191 (g := (mkF m 92 #[.val (.ref q1), .val (.int s1), .val (.int (1 : Int32)), .val (.ref aa14), .val (.int nd179)] [(.ref q1)])) rfl rfl (hb hby d15_92)
          refine own_go st192 ?_
          refine own_go (fun _ => XS.iload X192.here hx rfl (hb hby d15_95) rfl) ?_
          have ib194 : ¬ nd179 < 0 ∧ nd179 < z2 := (own_i2 HN hc180 l_nd179).2.2
          obtain ⟨ii195, hd195, bb195⟩ := H190_0.at ib194
          obtain ⟨cl193, Ar193, q193, S193, N193, H193, G193⟩ := id G190_0
          have hin193 : ¬ (nd179 < 0 ∨ cl193.slots.size ≤ (nd179).toNatClampNeg) := inb_of S193 ib194
          have hat193 : cl193.slots[(nd179).toNatClampNeg]? = some (.int ii195) := Has.at H193 hin193 hd195
          refine own_go (fun _ => X192.iaload hx (j := nd179) (v := (.int ii195)) (by rw [e192]; exact Ar193.1) (State.isArrayOf_alike hZ.alike Ar193.2.1) Ar193.2.2 hin193 hat193 (g := (mkF m 97 #[.val (.ref q1), .val (.int s1), .val (.int (1 : Int32)), .val (.ref aa14), .val (.int nd179)] [(.int nd179), (.ref wi)])) rfl rfl (hb hby d15_97) _) ?_
          refine own_go (fun _ => XS.iloadN X192.here hx rfl (hb hby d15_98) rfl) ?_
          show ∃ t o, Steps p.tables e below (T192.setTop (mkF m 99 #[.val (.ref q1), .val (.int s1), .val (.int (1 : Int32)), .val (.ref aa14), .val (.int nd179)] [(.int s1), (.int ii195)])) t ∧ _
          by_cases hc196 : ii195 = s1
          · refine own_go (fun _ => XS.icmpYes X192.here hx rfl (pc0 := 99) (pc' := 103) rfl (hb hby d15_99) rfl (teq hc196).1 (by decide) (by decide)) ?_
            refine own_go (fun _ => XS.iload X192.here hx rfl (hb hby d15_103) rfl) ?_
            refine own_go (fun _ => XS.iconst X192.here hx rfl (hb hby d15_105)) ?_
            refine own_go (fun _ => XS.iushr X192.here hx rfl (hb hby d15_106) rfl) ?_
            refine own_go (fun _ => XS.istore X192.here hx rfl (hb hby d15_107) rfl (l' := #[.val (.ref q1), .val (.int s1), .val (.int (1 : Int32)), .val (.ref aa14), .val (.int ((nd179.toUInt32 >>> ((1 : Int32) &&& 31).toUInt32).toInt32))]) rfl) ?_
            refine own_go (fun _ => XS.goto X192.here hx rfl (pc0 := 109) (pc' := 76) rfl (hb hby d15_109) (by decide) (by decide)) ?_
            obtain ⟨nd197, e_nd197, b_nd197⟩ : ∃ z : Int32, z = ((nd179.toUInt32 >>> ((1 : Int32) &&& 31).toUInt32).toInt32) ∧ 0 ≤ z.toInt ∧ z.toInt < zN.toInt ∧ z.toInt < 2 := ⟨_, rfl, (have u := own_ush nd179 b_nd179.1; have q := b_nd179; show 0 ≤ _ ∧ _ ∧ _ from ⟨u.1, by omega, by omega⟩)⟩
            show ∃ t o, Steps p.tables e below (T192.setTop (mkF m 76 #[.val (.ref q1), .val (.int s1), .val (.int (1 : Int32)), .val (.ref aa14), .val (.int ((nd179.toUInt32 >>> ((1 : Int32) &&& 31).toUInt32).toInt32))] [])) t ∧ _
            rw [← e_nd197]
            have l_nd197 : nd197 < zN := own_ilt b_nd197.2.1
            show ∃ t o, Steps p.tables e below (T192.setTop (mkF m 76 #[.val (.ref q1), .val (.int s1), .val (.int (1 : Int32)), .val (.ref aa14), .val (.int nd197)] [])) t ∧ _
            refine own_go (fun _ => XS.iload X192.here hx rfl (hb hby d15_76) rfl) ?_
            show ∃ t o, Steps p.tables e below (T192.setTop (mkF m 78 #[.val (.ref q1), .val (.int s1), .val (.int (1 : Int32)), .val (.ref aa14), .val (.int nd197)] [(.int nd197)])) t ∧ _
            by_cases hc198 : (0 : Int32) < nd197
            · refine own_go (fun _ => XS.ifNo X192.here hx rfl (hb hby d15_78) rfl ((if0 _ _).trans (tlt hc198).2.2.2)) ?_
              refine own_go (fun _ => XS.aloadN X192.here hx rfl (hb hby d15_81) rfl rfl) ?_
              refine own_go (fun _ => XS.iload X192.here hx rfl (hb hby d15_82) rfl) ?_
              show ∃ t o, Steps p.tables e below (T192.setTop (mkF m 84 #[.val (.ref q1), .val (.int s1), .val (.int (1 : Int32)), .val (.ref aa14), .val (.int nd197)] [(.int nd197), (.ref q1)])) t ∧ _
              have F199 := (Exa.keep F181 Kp190)
              have F200 := (Fld.keep F182 Kp190 (ninS ne172 nin0))
              have F201 := (Fld.keep F183 Kp190 (ninS ne172 nin0))
              have F202 := (Arv.keep F185 Kp190 (ninS ne184 nin0))
              have F203 := (Arv.keep F187 Kp190 (ninS ne186 nin0))
              have F204 := (Old.keep F188 Kp190 (allS ge171 all0))
              have zl205 : n0 ≤ T190.heap.size := by omega
              obtain ⟨cq206, q206, q206'⟩ := F199.cell
              obtain ⟨_, _, ⟨T206, L206, k206, n206⟩, -, X206, ⟨Lc206, hQ206, l206, y206, z206⟩, st206⟩ := X192.privateBack hx (y := (⟨"com/example/holdback/holdback/sim/EventQueue", "play", "(I)V"⟩ : MethodName)) hown (mvT hZ w_55) (mvT hZ w_56) (mvT hZ (own_selp (y := (⟨"com/example/holdback/holdback/sim/EventQueue", "play", "(I)V"⟩ : MethodName)) w_75 rfl w_57 w_56 (by decide))) (Cond.privateMethod_at (mvP hZ w_57 (args := #[]))) (mvT hZ w_58) (by decide) (backOf (W := 0) (rmPlay l Z a0 hw [] q1 fa fp wi kf kp kw ((ds.set (s1).toNatClampNeg (.double dd124))) ((ls.set (s1).toNatClampNeg (.long jj142))) wl2_190 zN z2 nd197 T190.heap n0 zl205 F199 F200 F201 F191 F202 F203 G190_0 F204 Gs127 Gs147 H190_0 HN hc198 l_nd197 (by omega) (by omega) (by omega) (by omega)) hZ w_58 w_6 (by decide) (by decide)) (g := (mkF m 84 #[.val (.ref q1), .val (.int s1), .val (.int (1 : Int32)), .val (.ref aa14), .val (.int nd197)] [(.int nd197), (.ref q1)])) rfl (by rw [hml]; rfl) (Steps.refl _) (a := q1) (by rw [e192]; exact q206) q206' (argsL := [(.int nd197)]) (rest := []) (lenOf pd__28I_29V rfl) rfl (by show 2 * 0 + _ ≤ _; exact Nat.le_of_eq rfl) (hb hby d15_84) (fun _ _ => ⟨rfl, e192, (by decide : 0 + 0 ≤ _), (by decide : 0 + 0 ≤ _)⟩)
              dsimp only [Pt.U, Pt.locs, Pt.cells, Pt.slots] at X206 l206 y206 z206 st206 hQ206
              rw [l206, y206, z206] at X206
              obtain ⟨wl2_206, rfl, Nq206, Kp206, G206_0, H206_0⟩ := hQ206
              have N206 := Fr.app N190 Nq206
              refine own_goT st206 ?_
              have le_206 : T190.heap.size ≤ T206.heap.size := Kp206.1
              have K206 : Keep h0 T206.heap [fa, fp, wi] := Keep.trans K190 Kp206 (allS (Or.inl (List.mem_of_getElem? (i := 2) rfl)) all0)
              refine own_go (fun _ => XS.iloadN X206.here hx rfl (hb hby d15_87) rfl) ?_
              show ∃ t o, Steps p.tables e below (T206.setTop (mkF m 88 #[.val (.ref q1), .val (.int s1), .val (.int (1 : Int32)), .val (.ref aa14), .val (.int nd197)] [(.int (1 : Int32))])) t ∧ _
              refine own_go (fun _ => XS.ifNo X206.here hx rfl (hb hby d15_88) rfl ((if0 _ _).trans (feq (by decide : ¬ ((1 : Int32) = (0 : Int32)))).1)) ?_
              refine own_go (fun _ => XS.aloadN X206.here hx rfl (hb hby d15_91) rfl rfl) ?_
              have F207 := (Fld.keep F191 Kp206 (ninS ne172 nin0))
              obtain ⟨T208, X208, e208, st208⟩ := getF X206 hx hZ hown (host := "") (Or.inl w_36) Via.refl rfl F207 (g := (mkF m 92 #[.val (.ref q1), .val (.int s1), .val (.int (1 : Int32)), .val (.ref aa14), .val (.int nd197)] [(.ref q1)])) rfl rfl (hb hby d15_92)
              refine own_go st208 ?_
              refine own_go (fun _ => XS.iload X208.here hx rfl (hb hby d15_95) rfl) ?_
              have ib210 : ¬ nd197 < 0 ∧ nd197 < z2 := (own_i2 HN hc198 l_nd197).2.2
              obtain ⟨ii211, hd211, bb211⟩ := H206_0.at ib210
              obtain ⟨cl209, Ar209, q209, S209, N209, H209, G209⟩ := id G206_0
              have hin209 : ¬ (nd197 < 0 ∨ cl209.slots.size ≤ (nd197).toNatClampNeg) := inb_of S209 ib210
              have hat209 : cl209.slots[(nd197).toNatClampNeg]? = some (.int ii211) := Has.at H209 hin209 hd211
              refine own_go (fun _ => X208.iaload hx (j := nd197) (v := (.int ii211)) (by rw [e208]; exact Ar209.1) (State.isArrayOf_alike hZ.alike Ar209.2.1) Ar209.2.2 hin209 hat209 (g := (mkF m 97 #[.val (.ref q1), .val (.int s1), .val (.int (1 : Int32)), .val (.ref aa14), .val (.int nd197)] [(.int nd197), (.ref wi)])) rfl rfl (hb hby d15_97) _) ?_
              refine own_go (fun _ => XS.iloadN X208.here hx rfl (hb hby d15_98) rfl) ?_
              show ∃ t o, Steps p.tables e below (T208.setTop (mkF m 99 #[.val (.ref q1), .val (.int s1), .val (.int (1 : Int32)), .val (.ref aa14), .val (.int nd197)] [(.int s1), (.int ii211)])) t ∧ _
              by_cases hc212 : ii211 = s1
              · refine own_go (fun _ => XS.icmpYes X208.here hx rfl (pc0 := 99) (pc' := 103) rfl (hb hby d15_99) rfl (teq hc212).1 (by decide) (by decide)) ?_
                refine own_go (fun _ => XS.iload X208.here hx rfl (hb hby d15_103) rfl) ?_
                refine own_go (fun _ => XS.iconst X208.here hx rfl (hb hby d15_105)) ?_
                refine own_go (fun _ => XS.iushr X208.here hx rfl (hb hby d15_106) rfl) ?_
                refine own_go (fun _ => XS.istore X208.here hx rfl (hb hby d15_107) rfl (l' := #[.val (.ref q1), .val (.int s1), .val (.int (1 : Int32)), .val (.ref aa14), .val (.int ((nd197.toUInt32 >>> ((1 : Int32) &&& 31).toUInt32).toInt32))]) rfl) ?_
                refine own_go (fun _ => XS.goto X208.here hx rfl (pc0 := 109) (pc' := 76) rfl (hb hby d15_109) (by decide) (by decide)) ?_
                obtain ⟨nd213, e_nd213, b_nd213⟩ : ∃ z : Int32, z = ((nd197.toUInt32 >>> ((1 : Int32) &&& 31).toUInt32).toInt32) ∧ 0 ≤ z.toInt ∧ z.toInt < zN.toInt ∧ z.toInt < 1 := ⟨_, rfl, (have u := own_ush nd197 b_nd197.1; have q := b_nd197; show 0 ≤ _ ∧ _ ∧ _ from ⟨u.1, by omega, by omega⟩)⟩
                show ∃ t o, Steps p.tables e below (T208.setTop (mkF m 76 #[.val (.ref q1), .val (.int s1), .val (.int (1 : Int32)), .val (.ref aa14), .val (.int ((nd197.toUInt32 >>> ((1 : Int32) &&& 31).toUInt32).toInt32))] [])) t ∧ _
                rw [← e_nd213]
                have l_nd213 : nd213 < zN := own_ilt b_nd213.2.1
                show ∃ t o, Steps p.tables e below (T208.setTop (mkF m 76 #[.val (.ref q1), .val (.int s1), .val (.int (1 : Int32)), .val (.ref aa14), .val (.int nd213)] [])) t ∧ _
                refine own_go (fun _ => XS.iload X208.here hx rfl (hb hby d15_76) rfl) ?_
                show ∃ t o, Steps p.tables e below (T208.setTop (mkF m 78 #[.val (.ref q1), .val (.int s1), .val (.int (1 : Int32)), .val (.ref aa14), .val (.int nd213)] [(.int nd213)])) t ∧ _
                have hd214 : ¬ ((0 : Int32) < nd213) := (fun q => by rw [Int32.lt_iff_toInt_lt] at q; have := b_nd213; have e0 : (0 : Int32).toInt = 0 := rfl; omega)
                refine own_go (fun _ => XS.ifYes X208.here hx rfl (pc0 := 78) (pc' := 112) rfl (hb hby d15_78) rfl ((if0 _ _).trans (flt hd214).2.2.2) (by decide) (by decide)) ?_
                show ∃ t o, Steps p.tables e below (T208.setTop (mkF m 112 #[.val (.ref q1), .val (.int s1), .val (.int (1 : Int32)), .val (.ref aa14), .val (.int nd213)] [])) t ∧ _
                have F215 := (Arv.keep F202 Kp206 (ninS ne184 nin0))
                have F216 := (Arv.keep F203 Kp206 (ninS ne186 nin0))
                obtain ⟨fs, hr, hrun, hended, hW, hsame⟩ := X208.leave (v := none) (fun _ => rfl)
                refine ⟨_, _, ?_, hrun, hended, _, _, rfl, ?_, ⟨_, rfl⟩, hW, hsame.mono (by decide) (by decide)⟩
                · exact X208.returnOut hx Bd.returns (hb hby d15_112) hr
                · show Q_rmFC1 Z _ _ _ _ _ _ _ _ _ _ _ _ _ _ _ _ _ _ _ h0 n0 _ T208.heap _
                  rw [e208]
                  exact ⟨(ds.set (s1).toNatClampNeg (.double dd124)), (ls.set (s1).toNatClampNeg (.long jj142)), wl2_206, rfl, N206, K206, F215, F216, G206_0, Gs127, Gs147, H206_0⟩
              · refine own_go (fun _ => XS.icmpNo X208.here hx rfl (hb hby d15_99) rfl (feq hc212).1) ?_
                show ∃ t o, Steps p.tables e below (T208.setTop (mkF m 102 #[.val (.ref q1), .val (.int s1), .val (.int (1 : Int32)), .val (.ref aa14), .val (.int nd197)] [])) t ∧ _
                have F217 := (Arv.keep F202 Kp206 (ninS ne184 nin0))
                have F218 := (Arv.keep F203 Kp206 (ninS ne186 nin0))
                obtain ⟨fs, hr, hrun, hended, hW, hsame⟩ := X208.leave (v := none) (fun _ => rfl)
                refine ⟨_, _, ?_, hrun, hended, _, _, rfl, ?_, ⟨_, rfl⟩, hW, hsame.mono (by decide) (by decide)⟩
                · exact X208.returnOut hx Bd.returns (hb hby d15_102) hr
                · show Q_rmFC1 Z _ _ _ _ _ _ _ _ _ _ _ _ _ _ _ _ _ _ _ h0 n0 _ T208.heap _
                  rw [e208]
                  exact ⟨(ds.set (s1).toNatClampNeg (.double dd124)), (ls.set (s1).toNatClampNeg (.long jj142)), wl2_206, rfl, N206, K206, F217, F218, G206_0, Gs127, Gs147, H206_0⟩
            · refine own_go (fun _ => XS.ifYes X192.here hx rfl (pc0 := 78) (pc' := 112) rfl (hb hby d15_78) rfl ((if0 _ _).trans (flt hc198).2.2.2) (by decide) (by decide)) ?_
              show ∃ t o, Steps p.tables e below (T192.setTop (mkF m 112 #[.val (.ref q1), .val (.int s1), .val (.int (1 : Int32)), .val (.ref aa14), .val (.int nd197)] [])) t ∧ _
              have F219 := (Arv.keep F185 Kp190 (ninS ne184 nin0))
              have F220 := (Arv.keep F187 Kp190 (ninS ne186 nin0))
              obtain ⟨fs, hr, hrun, hended, hW, hsame⟩ := X192.leave (v := none) (fun _ => rfl)
              refine ⟨_, _, ?_, hrun, hended, _, _, rfl, ?_, ⟨_, rfl⟩, hW, hsame.mono (by decide) (by decide)⟩
              · exact X192.returnOut hx Bd.returns (hb hby d15_112) hr
              · show Q_rmFC1 Z _ _ _ _ _ _ _ _ _ _ _ _ _ _ _ _ _ _ _ h0 n0 _ T192.heap _
                rw [e192]
                exact ⟨(ds.set (s1).toNatClampNeg (.double dd124)), (ls.set (s1).toNatClampNeg (.long jj142)), wl2_190, rfl, N190, K190, F219, F220, G190_0, Gs127, Gs147, H190_0⟩
          · refine own_go (fun _ => XS.icmpNo X192.here hx rfl (hb hby d15_99) rfl (feq hc196).1) ?_
            show ∃ t o, Steps p.tables e below (T192.setTop (mkF m 102 #[.val (.ref q1), .val (.int s1), .val (.int (1 : Int32)), .val (.ref aa14), .val (.int nd179)] [])) t ∧ _
            have F221 := (Arv.keep F185 Kp190 (ninS ne184 nin0))
            have F222 := (Arv.keep F187 Kp190 (ninS ne186 nin0))
            obtain ⟨fs, hr, hrun, hended, hW, hsame⟩ := X192.leave (v := none) (fun _ => rfl)
            refine ⟨_, _, ?_, hrun, hended, _, _, rfl, ?_, ⟨_, rfl⟩, hW, hsame.mono (by decide) (by decide)⟩
            · exact X192.returnOut hx Bd.returns (hb hby d15_102) hr
            · show Q_rmFC1 Z _ _ _ _ _ _ _ _ _ _ _ _ _ _ _ _ _ _ _ h0 n0 _ T192.heap _
              rw [e192]
              exact ⟨(ds.set (s1).toNatClampNeg (.double dd124)), (ls.set (s1).toNatClampNeg (.long jj142)), wl2_190, rfl, N190, K190, F221, F222, G190_0, Gs127, Gs147, H190_0⟩
        · refine own_go (fun _ => XS.ifYes X174.here hx rfl (pc0 := 78) (pc' := 112) rfl (hb hby d15_78) rfl ((if0 _ _).trans (flt hc180).2.2.2) (by decide) (by decide)) ?_
          show ∃ t o, Steps p.tables e below (T174.setTop (mkF m 112 #[.val (.ref q1), .val (.int s1), .val (.int (1 : Int32)), .val (.ref aa14), .val (.int nd179)] [])) t ∧ _
          have ne223 : fa ≠ wi := own_ne (by omega)
          have F224 := (Arv.keep F164 Kp170 (ninS ne223 nin0))
          have ne225 : fp ≠ wi := own_ne (by omega)
          have F226 := (Arv.keep V148 Kp170 (ninS ne225 nin0))
          obtain ⟨fs, hr, hrun, hended, hW, hsame⟩ := X174.leave (v := none) (fun _ => rfl)
          refine ⟨_, _, ?_, hrun, hended, _, _, rfl, ?_, ⟨_, rfl⟩, hW, hsame.mono (by decide) (by decide)⟩
          · exact X174.returnOut hx Bd.returns (hb hby d15_112) hr
          · show Q_rmFC1 Z _ _ _ _ _ _ _ _ _ _ _ _ _ _ _ _ _ _ _ h0 n0 _ T174.heap _
            rw [e174]
            exact ⟨(ds.set (s1).toNatClampNeg (.double dd124)), (ls.set (s1).toNatClampNeg (.long jj142)), wl2_170, rfl, N170, K170, F224, F226, G170_0, Gs127, Gs147, H170_0⟩
      · refine own_go (fun _ => XS.icmpNo X174.here hx rfl (hb hby d15_99) rfl (feq hc178).1) ?_
        show ∃ t o, Steps p.tables e below (T174.setTop (mkF m 102 #[.val (.ref q1), .val (.int s1), .val (.int (1 : Int32)), .val (.ref aa14), .val (.int nd157)] [])) t ∧ _
        have ne227 : fa ≠ wi := own_ne (by omega)
        have F228 := (Arv.keep F164 Kp170 (ninS ne227 nin0))
        have ne229 : fp ≠ wi := own_ne (by omega)
        have F230 := (Arv.keep V148 Kp170 (ninS ne229 nin0))
        obtain ⟨fs, hr, hrun, hended, hW, hsame⟩ := X174.leave (v := none) (fun _ => rfl)
        refine ⟨_, _, ?_, hrun, hended, _, _, rfl, ?_, ⟨_, rfl⟩, hW, hsame.mono (by decide) (by decide)⟩
        · exact X174.returnOut hx Bd.returns (hb hby d15_102) hr
        · show Q_rmFC1 Z _ _ _ _ _ _ _ _ _ _ _ _ _ _ _ _ _ _ _ h0 n0 _ T174.heap _
          rw [e174]
          exact ⟨(ds.set (s1).toNatClampNeg (.double dd124)), (ls.set (s1).toNatClampNeg (.long jj142)), wl2_170, rfl, N170, K170, F228, F230, G170_0, Gs127, Gs147, H170_0⟩
    · refine own_go (fun _ => XS.ifYes X152.here hx rfl (pc0 := 78) (pc' := 112) rfl (hb hby d15_78) rfl ((if0 _ _).trans (flt hc158).2.2.2) (by decide) (by decide)) ?_
      show ∃ t o, Steps p.tables e below (T152.setTop (mkF m 112 #[.val (.ref q1), .val (.int s1), .val (.int (1 : Int32)), .val (.ref aa14), .val (.int nd157)] [])) t ∧ _
      have ne231 : fa ≠ fp := own_ne (by omega)
      have F232 := (Arv.other V128 W148 ne231)
      have ne233 : wi ≠ fa := own_ne (by omega)
      have ne234 : wi ≠ fp := own_ne (by omega)
      have F235 := (Arv.other (Arv.other P7 W128 ne233) W148 ne234)
      obtain ⟨fs, hr, hrun, hended, hW, hsame⟩ := X152.leave (v := none) (fun _ => rfl)
      refine ⟨_, _, ?_, hrun, hended, _, _, rfl, ?_, ⟨_, rfl⟩, hW, hsame.mono (by decide) (by decide)⟩
      · exact X152.returnOut hx Bd.returns (hb hby d15_112) hr
      · show Q_rmFC1 Z _ _ _ _ _ _ _ _ _ _ _ _ _ _ _ _ _ _ _ h0 n0 _ T152.heap _
        rw [e152]
        exact ⟨(ds.set (s1).toNatClampNeg (.double dd124)), (ls.set (s1).toNatClampNeg (.long jj142)), wl, rfl, N148, K148, F232, V148, F235, Gs127, Gs147, GW⟩
theorem ef_rmAdd (m : MethodId) (x0 : Nat) (x1 : Int32) (x2 : UInt64) : entryFrame m #[(.ref x0), (.int x1), (.double x2), .null] 6 = mkF m 0 #[.val (.ref x0), .val (.int x1), .val (.double x2), .second, .val .null, .unset] [] := by first | (simp [entryFrame, mkF, argsToLocals, Value.category]; done) | rfl
theorem d13_0 : decode prog_164_method_2_code 0 = .ok (.aload_n 0, 1) := by decide +kernel
theorem d13_1 : decode prog_164_method_2_code 1 = .ok (.getfield 21, 3) := by decide +kernel
theorem d13_4 : decode prog_164_method_2_code 4 = .ok (.iload_n 1, 1) := by decide +kernel
theorem d13_5 : decode prog_164_method_2_code 5 = .ok (.aaload, 1) := by decide +kernel
theorem d13_6 : decode prog_164_method_2_code 6 = .ok (.astore 5, 2) := by decide +kernel
theorem d13_8 : decode prog_164_method_2_code 8 = .ok (.dload_n 2, 1) := by decide +kernel
theorem d13_9 : decode prog_164_method_2_code 9 = .ok (.aload 5, 2) := by decide +kernel
theorem d13_11 : decode prog_164_method_2_code 11 = .ok (.getfield 52, 3) := by decide +kernel
theorem d13_14 : decode prog_164_method_2_code 14 = .ok (.dcmp .g, 1) := by decide +kernel
theorem d13_15 : decode prog_164_method_2_code 15 = .ok (.ifCond .ge 23, 3) := by decide +kernel
theorem d13_38 : decode prog_164_method_2_code 38 = .ok (.aload 5, 2) := by decide +kernel
theorem d13_40 : decode prog_164_method_2_code 40 = .ok (.dload_n 2, 1) := by decide +kernel
theorem d13_41 : decode prog_164_method_2_code 41 = .ok (.aload_n 0, 1) := by decide +kernel
theorem d13_42 : decode prog_164_method_2_code 42 = .ok (.dup, 1) := by decide +kernel
theorem d13_43 : decode prog_164_method_2_code 43 = .ok (.getfield 65, 3) := by decide +kernel
theorem d13_46 : decode prog_164_method_2_code 46 = .ok (.dup2_x1, 1) := by decide +kernel
theorem d13_47 : decode prog_164_method_2_code 47 = .ok (.lconst 1, 1) := by decide +kernel
theorem d13_48 : decode prog_164_method_2_code 48 = .ok (.ladd, 1) := by decide +kernel
theorem d13_49 : decode prog_164_method_2_code 49 = .ok (.putfield 65, 3) := by decide +kernel
theorem d13_52 : decode prog_164_method_2_code 52 = .ok (.aload 4, 2) := by decide +kernel
theorem d13_54 : decode prog_164_method_2_code 54 = .ok (.invokevirtual 69, 3) := by decide +kernel
theorem pd__28DJLjava_2flang_2fRunnable_3b_29V : parseMethodDescriptor "(DJLjava/lang/Runnable;)V" = some ⟨[.double, .long, (.object "java/lang/Runnable")], none⟩ := by decide +kernel
theorem d13_57 : decode prog_164_method_2_code 57 = .ok (.aload_n 0, 1) := by decide +kernel
theorem d13_58 : decode prog_164_method_2_code 58 = .ok (.dup, 1) := by decide +kernel
theorem d13_59 : decode prog_164_method_2_code 59 = .ok (.getfield 73, 3) := by decide +kernel
theorem d13_62 : decode prog_164_method_2_code 62 = .ok (.iconst 1, 1) := by decide +kernel
theorem d13_63 : decode prog_164_method_2_code 63 = .ok (.iadd, 1) := by decide +kernel
theorem d13_64 : decode prog_164_method_2_code 64 = .ok (.putfield 73, 3) := by decide +kernel
theorem d13_67 : decode prog_164_method_2_code 67 = .ok (.aload 5, 2) := by decide +kernel
theorem d13_69 : decode prog_164_method_2_code 69 = .ok (.getfield 77, 3) := by decide +kernel
theorem d13_72 : decode prog_164_method_2_code 72 = .ok (.iconst 1, 1) := by decide +kernel
theorem d13_73 : decode prog_164_method_2_code 73 = .ok (.if_icmp .ne 9, 3) := by decide +kernel
theorem d13_76 : decode prog_164_method_2_code 76 = .ok (.aload_n 0, 1) := by decide +kernel
theorem d13_77 : decode prog_164_method_2_code 77 = .ok (.iload_n 1, 1) := by decide +kernel
theorem d13_78 : decode prog_164_method_2_code 78 = .ok (.iconst 1, 1) := by decide +kernel
theorem d13_79 : decode prog_164_method_2_code 79 = .ok (.invokevirtual 78, 3) := by decide +kernel
theorem pd__28IZ_29V : parseMethodDescriptor "(IZ)V" = some ⟨[.int, .boolean], none⟩ := by decide +kernel
theorem d13_82 : decode prog_164_method_2_code 82 = .ok (.return_, 1) := by decide +kernel
def Q_rmAdd (Z : State) (q1 : Nat) (fa : Nat) (fp : Nat) (wi : Nat) (kf : ClassId) (kp : ClassId) (kw : ClassId) (ds : List Value) (ls : List Value) (wl : List Value) (zN : Int32) (z2 : Int32) (ss : Nat) (ks : ClassId) (vs : List Value) (ff : Nat → Nat) (TT : Int) (KK : Int) (s1 : Int32) (A1 : UInt64) (t1 : Int32) (sz : Int32) (sc : Int64) (h0 : Heap) (n0 : Nat) (v : Option Value) (h : Heap) (L : List Loc) : Prop := ∃ (ds2 : List Value), ∃ (ls2 : List Value), ∃ (wl2 : List Value), v = none ∧ Fr n0 L ∧ Keep h0 h (own_up n0 h0) ∧ Exa Z h q1 "com/example/holdback/holdback/sim/EventQueue" ∧ Fld Z h q1 "com/example/holdback/holdback/sim/EventQueue" "firstAt" "[D" (.ref fa) ∧ Fld Z h q1 "com/example/holdback/holdback/sim/EventQueue" "firstPlace" "[J" (.ref fp) ∧ Fld Z h q1 "com/example/holdback/holdback/sim/EventQueue" "winners" "[I" (.ref wi) ∧ Arv Z h fa kf .double zN ds2 (.double (0 : UInt64)) ∧ Arv Z h fp kp .long zN ls2 (.long (0 : Int64)) ∧ Arv Z h wi kw .int z2 wl2 (.int (0 : Int32)) ∧ Fld Z h q1 "com/example/holdback/holdback/sim/EventQueue" "streams" "[Lcom/example/holdback/holdback/sim/EventQueue$Stream;" (.ref ss) ∧ Arv Z h ss ks (.object "com/example/holdback/holdback/sim/EventQueue$Stream") zN vs .null ∧ own_SS Z h zN.toNatClampNeg ff (t1.toInt) (KK + 1) ∧ Fld Z h q1 "com/example/holdback/holdback/sim/EventQueue" "size" "I" (.int (sz + (1 : Int32))) ∧ Fld Z h q1 "com/example/holdback/holdback/sim/EventQueue" "scheduled" "J" (.long (sc + (1 : Int64))) ∧ (own_G own_pd (.double (0 : UInt64)) zN ds2) ∧ (own_G own_pj (.long (0 : Int64)) zN ls2) ∧ (own_G (own_pw zN) (.int (0 : Int32)) z2 wl2)
set_option maxRecDepth 65536 in
set_option maxHeartbeats 40000000 in
theorem rmAdd (l : Launch) (Z : State) (a0 : Array Value) (hw : ∀ d ∈ tables_1, d.before a0 Z = true) (ws : List Jvm.Cond) (q1 : Nat) (fa : Nat) (fp : Nat) (wi : Nat) (kf : ClassId) (kp : ClassId) (kw : ClassId) (ds : List Value) (ls : List Value) (wl : List Value) (zN : Int32) (z2 : Int32) (ss : Nat) (ks : ClassId) (vs : List Value) (ff : Nat → Nat) (TT : Int) (KK : Int) (s1 : Int32) (A1 : UInt64) (t1 : Int32) (sz : Int32) (sc : Int64) (h0 : Heap) (n0 : Nat) (Z0 : n0 ≤ h0.size) (P1 : Exa Z h0 q1 "com/example/holdback/holdback/sim/EventQueue") (P2 : Fld Z h0 q1 "com/example/holdback/holdback/sim/EventQueue" "firstAt" "[D" (.ref fa)) (P3 : Fld Z h0 q1 "com/example/holdback/holdback/sim/EventQueue" "firstPlace" "[J" (.ref fp)) (P4 : Fld Z h0 q1 "com/example/holdback/holdback/sim/EventQueue" "winners" "[I" (.ref wi)) (P5 : Arv Z h0 fa kf .double zN ds (.double (0 : UInt64))) (P6 : Arv Z h0 fp kp .long zN ls (.long (0 : Int64))) (P7 : Arv Z h0 wi kw .int z2 wl (.int (0 : Int32))) (P8 : Fld Z h0 q1 "com/example/holdback/holdback/sim/EventQueue" "streams" "[Lcom/example/holdback/holdback/sim/EventQueue$Stream;" (.ref ss)) (P9 : Arv Z h0 ss ks (.object "com/example/holdback/holdback/sim/EventQueue$Stream") zN vs .null) (P10 : own_SS Z h0 zN.toNatClampNeg ff TT KK) (P11 : Fld Z h0 q1 "com/example/holdback/holdback/sim/EventQueue" "size" "I" (.int sz)) (P12 : Fld Z h0 q1 "com/example/holdback/holdback/sim/EventQueue" "scheduled" "J" (.long sc)) (OLD : Old Z n0 h0) (GD : own_G own_pd (.double (0 : UInt64)) zN ds) (GJ : own_G own_pj (.long (0 : Int64)) zN ls) (GW : own_G (own_pw zN) (.int (0 : Int32)) z2 wl) (HN : own_N zN z2) (HR : own_R zN ff vs) (o1 : q1 < ss) (o2 : ss < fa) (o3 : fa < fp) (o4 : fp < wi) (o5 : wi < ff 0) (gq : n0 ≤ q1) (hK : 0 ≤ KK ∧ KK ≤ 6) (hs : ¬ s1 < 0 ∧ s1 < zN) (hA : A1 = FP.i2d t1) (hT : TT ≤ t1.toInt) :
    MetFree l (⟨"com/example/holdback/holdback/sim/EventQueue", "add", "(IDLjava/lang/Runnable;)V"⟩ : MethodName) (head1 (Jvm.Cond.code (⟨"com/example/holdback/holdback/sim/EventQueue", "add", "(IDLjava/lang/Runnable;)V"⟩ : MethodName) prog_164_method_2_code 6 none :: ws) ({ frames := 5, cells := 0, slots := 0, locals := 125 } : Room)) (fun a U => a = #[(.ref q1), (.int s1), (.double A1), .null] ∧ Z.Warmed39 U.vm ∧ U.heap = h0) (fun _ _ _ _ _ => True) (fun _ U o U' => ∃ v L, o = .returned v ∧ Q_rmAdd Z q1 fa fp wi kf kp kw ds ls wl zN z2 ss ks vs ff TT KK s1 A1 t1 sz sc h0 n0 v U'.heap L ∧ FrameEnd U o U' L ({ frames := 5, cells := 0, slots := 0, locals := 125 } : Room).cells ({ frames := 5, cells := 0, slots := 0, locals := 125 } : Room).slots) := by
  refine MetFree.of_bodySF (plainFor_of_name pn_com_example_holdback_holdback_sim_EventQueue) hisR ?_
  intro p e s m args below meth c s₁ Bd hml0 hP hK
  obtain ⟨rfl, hZ, hh⟩ := hP
  have hx := Bd.exec
  have hby := Bd.bytes
  have hml : c.maxLocals = 6 := hml0
  have hown : s.vm.findClass "com/example/holdback/holdback/sim/EventQueue" = some m.cls := findClass_of_methodNamed Bd.named
  have hnm := (name_of_methodNamed Bd.named Bd.method).1
  have X0 : Stand p l e ({ frames := 5, cells := 0, slots := 0, locals := 125 } : Room) s m #[(.ref q1), (.int s1), (.double A1), .null] below meth c s₁ [] 0 0 := Stand.of_body Bd
  have e0 : s₁.heap = h0 := by rw [← hh, Bd.state]; rfl
  have N0 := Fr.nil n0
  have pre0 : ∀ t, Steps p.tables e below (s₁.setTop (mkF m 0 #[.val (.ref q1), .val (.int s1), .val (.double A1), .second, .val .null, .unset] [])) t → Steps p.tables e below (s₁.setTop (entryFrame m #[(.ref q1), (.int s1), (.double A1), .null] 6)) t := fun t k => castTop (ef_rmAdd m q1 s1 A1) k
  have w_100 := hw _ (List.mem_of_getElem? (i := 100) rfl)
  have w_101 := hw _ (List.mem_of_getElem? (i := 101) rfl)
  have w_102 := hw _ (List.mem_of_getElem? (i := 102) rfl)
  have w_28 := hw _ (List.mem_of_getElem? (i := 28) rfl)
  have w_31 := hw _ (List.mem_of_getElem? (i := 31) rfl)
  have w_34 := hw _ (List.mem_of_getElem? (i := 34) rfl)
  have w_37 := hw _ (List.mem_of_getElem? (i := 37) rfl)
  have w_5 := hw _ (List.mem_of_getElem? (i := 5) rfl)
  have w_77 := hw _ (List.mem_of_getElem? (i := 77) rfl)
  have w_78 := hw _ (List.mem_of_getElem? (i := 78) rfl)
  have w_86 := hw _ (List.mem_of_getElem? (i := 86) rfl)
  have w_87 := hw _ (List.mem_of_getElem? (i := 87) rfl)
  have w_91 := hw _ (List.mem_of_getElem? (i := 91) rfl)
  have oz := OLD.1
  have lt_fa : fa < h0.size := P5.lt
  have lt_fp : fp < h0.size := P6.lt
  have lt_q1 : q1 < h0.size := P1.lt
  have lt_ss : ss < h0.size := P9.lt
  have lt_wi : wi < h0.size := P7.lt
  refine own_go (B := s₁.setTop (mkF m 0 #[.val (.ref q1), .val (.int s1), .val (.double A1), .second, .val .null, .unset] [])) pre0 ?_
  show ∃ t o, Steps p.tables e below (s₁.setTop (mkF m 0 #[.val (.ref q1), .val (.int s1), .val (.double A1), .second, .val .null, .unset] [])) t ∧ _
  refine own_go (fun _ => XS.aloadN X0.here hx rfl (hb hby d13_0) rfl rfl) ?_
  obtain ⟨T13, X13, e13, st13⟩ := getF X0 hx hZ hown (host := "") (Or.inl (hw _ (List.mem_of_getElem? (i := 27) rfl))) Via.refl e0 P8 (g := (mkF m 1 #[.val (.ref q1), .val (.int s1), .val (.double A1), .second, .val .null, .unset] [(.ref q1)])) rfl rfl (hb hby d13_1)
  refine own_go st13 ?_
  refine own_go (fun _ => XS.iloadN X13.here hx rfl (hb hby d13_4) rfl) ?_
  have ib15 : ¬ s1 < 0 ∧ s1 < zN := hs
  obtain ⟨aa16, ea16⟩ : ∃ z, z = ff (s1).toNatClampNeg := ⟨_, rfl⟩
  obtain ⟨hi16, eh16⟩ : ∃ z, z = ff ((s1).toNatClampNeg + 1) := ⟨_, rfl⟩
  have hr16 := HR s1 ib15.1 ib15.2
  have os16 := P10 (s1).toNatClampNeg (own_lti ib15.1 ib15.2)
  have om16 := own_SS.mono P10 0 (s1).toNatClampNeg (Nat.zero_le _) (Nat.le_of_lt (own_lti ib15.1 ib15.2))
  rw [← ea16] at hr16 os16 om16
  rw [← eh16] at os16
  obtain ⟨am_16, ap_16, ac_16, km_16, kp_16, kc_16, lm_16, lp_16, lc_16, f1_16, z1_16, x1_16, Sl1_16, Sl2_16, Sl3_16, Sl4_16, SE_16, SF1_16, SF2_16, SF3_16, SF4_16, SF5_16, SF6_16, SA1_16, SA2_16, SA3_16, SG1_16, SG2_16, SG3_16, SB1_16, SB2_16, SB3_16⟩ := os16
  obtain ⟨cl14, Ar14, q14, S14, N14, H14, G14⟩ := id P9
  have hin14 : ¬ (s1 < 0 ∨ cl14.slots.size ≤ (s1).toNatClampNeg) := inb_of S14 ib15
  have hat14 : cl14.slots[(s1).toNatClampNeg]? = some (.ref aa16) := Has.at H14 hin14 hr16
  refine own_go (fun _ => X13.aaload hx (j := s1) (v := (.ref aa16)) (by rw [e13]; exact Ar14.1) (State.isArrayOf_alike hZ.alike Ar14.2.1) rfl Ar14.2.2 hin14 hat14 (g := (mkF m 5 #[.val (.ref q1), .val (.int s1), .val (.double A1), .second, .val .null, .unset] [(.int s1), (.ref ss)])) rfl rfl (hb hby d13_5) _) ?_
  refine own_go (fun _ => XS.astore X13.here hx rfl (hb hby d13_6) rfl rfl (l' := #[.val (.ref q1), .val (.int s1), .val (.double A1), .second, .val .null, .val (.ref aa16)]) rfl) ?_
  refine own_go (fun _ => XS.dloadN X13.here hx rfl (hb hby d13_8) rfl) ?_
  refine own_go (fun _ => XS.aload X13.here hx rfl (hb hby d13_9) rfl rfl) ?_
  obtain ⟨T17, X17, e17, st17⟩ := own_getR X13 hx hZ hown (hw _ (List.mem_of_getElem? (i := 84) rfl)) e13 SF6_16 (g := (mkF m 11 #[.val (.ref q1), .val (.int s1), .val (.double A1), .second, .val .null, .val (.ref aa16)] [(.ref aa16), (.double A1)])) rfl rfl (hb hby d13_11)
  refine own_go st17 ?_
  show ∃ t o, Steps p.tables e below (T17.setTop (mkF m 14 #[.val (.ref q1), .val (.int s1), .val (.double A1), .second, .val .null, .val (.ref aa16)] [(.double (FP.i2d x1_16)), (.double A1)])) t ∧ _
  refine own_go (fun _ => XS.dcmpS X17.here hx rfl (hb hby d13_14) rfl (v := (lcmpW t1.toInt64 x1_16.toInt64)) (by rw [hA]; exact own_dc t1 x1_16)) ?_
  show ∃ t o, Steps p.tables e below (T17.setTop (mkF m 15 #[.val (.ref q1), .val (.int s1), .val (.double A1), .second, .val .null, .val (.ref aa16)] [(.int (lcmpW t1.toInt64 x1_16.toInt64))])) t ∧ _
  have hd18 : ¬ (t1.toInt64 < x1_16.toInt64) := (own_cmp (Int.le_trans SB3_16 hT))
  refine own_go (fun _ => XS.ifYes X17.here hx rfl (pc0 := 15) (pc' := 38) rfl (hb hby d13_15) rfl ((if0 _ _).trans (flt (mt (lw_lt _ _).mp hd18)).2.1) (by decide) (by decide)) ?_
  refine own_go (fun _ => XS.aload X17.here hx rfl (hb hby d13_38) rfl rfl) ?_
  refine own_go (fun _ => XS.dloadN X17.here hx rfl (hb hby d13_40) rfl) ?_
  refine own_go (fun _ => XS.aloadN X17.here hx rfl (hb hby d13_41) rfl rfl) ?_
  refine own_go (fun _ => XS.dup X17.here hx rfl (hb hby d13_42) rfl rfl) ?_
  obtain ⟨T19, X19, e19, st19⟩ := getF X17 hx hZ hown (host := "") (Or.inl w_86) Via.refl e17 P12 (g := (mkF m 43 #[.val (.ref q1), .val (.int s1), .val (.double A1), .second, .val .null, .val (.ref aa16)] [(.ref q1), (.ref q1), (.double A1), (.ref aa16)])) rfl rfl (hb hby d13_43)
  refine own_go st19 ?_
  refine own_go (fun _ => own_dup2x1 X19.here hx rfl (hb hby d13_46) rfl) ?_
  refine own_go (fun _ => XS.lconst X19.here hx rfl (hb hby d13_47)) ?_
  show ∃ t o, Steps p.tables e below (T19.setTop (mkF m 48 #[.val (.ref q1), .val (.int s1), .val (.double A1), .second, .val .null, .val (.ref aa16)] [(.long (1 : Int64)), (.long sc), (.ref q1), (.long sc), (.double A1), (.ref aa16)])) t ∧ _
  refine own_go (fun _ => XS.ladd X19.here hx rfl (hb hby d13_48) rfl) ?_
  obtain ⟨T20, h20, X20, e20, W20, st20⟩ := putF X19 hx hZ hown (host := "") (Or.inl w_86) Via.refl e19 P12 P1 (Or.inl w_87) w_5 (ty := .long) (by decide) rfl rfl (g := (mkF m 49 #[.val (.ref q1), .val (.int s1), .val (.double A1), .second, .val .null, .val (.ref aa16)] [(.long (sc + (1 : Int64))), (.ref q1), (.long sc), (.double A1), (.ref aa16)])) rfl rfl (hb hby d13_49)
  refine own_go st20 ?_
  have le_20 : h0.size ≤ h20.size := Nat.le_of_eq W20.size.symm
  have K20 : Keep h0 h20 (own_up n0 h0) := Keep.wr (Keep.refl h0 (own_up n0 h0)) W20 (own_up_or gq)
  have N20 := Fr.snoc X20 N0 gq
  have Fw20 := Fld.same W20 P12
  refine own_go (fun _ => XS.aload X20.here hx rfl (hb hby d13_52) rfl rfl) ?_
  show ∃ t o, Steps p.tables e below (T20.setTop (mkF m 54 #[.val (.ref q1), .val (.int s1), .val (.double A1), .second, .val .null, .val (.ref aa16)] [.null, (.long sc), (.double A1), (.ref aa16)])) t ∧ _
  have F21 := (own_SS.wr P10 W20 (show (q1 : Nat) < (ff 0) by omega))
  have F22 := (Exa.wr W20 SE_16)
  have ne23 : aa16 ≠ q1 := own_ne (by omega)
  have F24 := (Fld.other W20 SF1_16 (Or.inl ne23))
  have F25 := (Fld.other W20 SF2_16 (Or.inl ne23))
  have F26 := (Fld.other W20 SF3_16 (Or.inl ne23))
  have F27 := (Fld.other W20 SF4_16 (Or.inl ne23))
  have F28 := (Fld.other W20 SF5_16 (Or.inl ne23))
  have F29 := (Fld.other W20 SF6_16 (Or.inl ne23))
  have ne30 : am_16 ≠ q1 := own_ne (by omega)
  have F31 := (Arv.other SA1_16 W20 ne30)
  have ne32 : ap_16 ≠ q1 := own_ne (by omega)
  have F33 := (Arv.other SA2_16 W20 ne32)
  have ne34 : ac_16 ≠ q1 := own_ne (by omega)
  have F35 := (Arv.other SA3_16 W20 ne34)
  have F36 := (Old.wr OLD W20 gq)
  have zl37 : n0 ≤ h20.size := by omega
  obtain ⟨cq38, kq38, q38a, q38b, q38c⟩ := isOf hZ e20 F22
  obtain ⟨_, _, ⟨T38, L38, k38, n38⟩, -, X38, ⟨Lc38, hQ38, l38, y38, z38⟩, st38⟩ := X20.virtualBack hx (y := (⟨"com/example/holdback/holdback/sim/EventQueue$Stream", "add", "(DJLjava/lang/Runnable;)V"⟩ : MethodName)) (z := (⟨"com/example/holdback/holdback/sim/EventQueue$Stream", "add", "(DJLjava/lang/Runnable;)V"⟩ : MethodName)) hown (mvT hZ (hw _ (List.mem_of_getElem? (i := 88) rfl))) (mvT hZ (hw _ (List.mem_of_getElem? (i := 89) rfl))) (notFace_of_selects (args := #[]) (mvT hZ w_91)) (mvT hZ w_91) (mvT hZ (hw _ (List.mem_of_getElem? (i := 90) rfl))) (by decide) (backOf (W := 0) (rmSA l Z a0 hw [] aa16 am_16 ap_16 ac_16 km_16 kp_16 kc_16 lm_16 lp_16 lc_16 f1_16 z1_16 (FP.i2d x1_16) A1 sc h20 n0 zl37 F22 F24 F25 F26 F27 F28 F29 F31 F33 F35 F36 Sl1_16 Sl2_16 Sl3_16 (by omega) SG1_16 SG2_16 SG3_16 ((hA ▸ own_nni t1) : Jvm.Free.Fl.NoNaN64 A1) ((fun q => by have e8 : (8 : Int32).toInt = 8 := rfl; have := SB2_16; rw [q] at this; omega) : ¬ (z1_16 = (8 : Int32)))) hZ (hw _ (List.mem_of_getElem? (i := 92) rfl)) (hw _ (List.mem_of_getElem? (i := 39) rfl)) (by decide) (by decide)) q38a q38c (g := (mkF m 54 #[.val (.ref q1), .val (.int s1), .val (.double A1), .second, .val .null, .val (.ref aa16)] [.null, (.long sc), (.double A1), (.ref aa16)])) rfl (by rw [hml]; rfl) (Steps.refl _) (argsL := [(.double A1), (.long sc), .null]) (rest := []) (lenOf pd__28DJLjava_2flang_2fRunnable_3b_29V rfl) rfl (by show 2 * 0 + _ ≤ _; exact Nat.le_of_eq rfl) (hb hby d13_54) (fun _ _ => ⟨rfl, e20, (by decide : 0 + 0 ≤ _), (by decide : 0 + 0 ≤ _)⟩)
  dsimp only [Pt.U, Pt.locs, Pt.cells, Pt.slots] at X38 l38 y38 z38 st38 hQ38
  rw [l38, y38, z38] at X38
  obtain ⟨rfl, Nq38, Kp38, G38_0, G38_1, G38_2, G38_3, G38_4, G38_5, G38_6, G38_7, G38_8, G38_9, H38_0, H38_1, H38_2⟩ := hQ38
  have N38 := Fr.app N20 Nq38
  refine own_goT st38 ?_
  have le_38 : h20.size ≤ T38.heap.size := Kp38.1
  have ge39 : n0 ≤ aa16 := by omega
  have ge40 : n0 ≤ am_16 := by omega
  have ge41 : n0 ≤ ap_16 := by omega
  have ge42 : n0 ≤ ac_16 := by omega
  have K38 : Keep h0 T38.heap (own_up n0 h0) := Keep.trans K20 Kp38 (allS (own_up_or ge39) (allS (own_up_or ge40) (allS (own_up_or ge41) (allS (own_up_or ge42) all0))))
  have ns43 : own_S Z T38.heap aa16 hi16 (t1.toInt) (KK + 1) := ⟨am_16, ap_16, ac_16, km_16, kp_16, kc_16, (lm_16.set (((f1_16 + z1_16) &&& (7 : Int32))).toNatClampNeg (.double A1)), (lp_16.set (((f1_16 + z1_16) &&& (7 : Int32))).toNatClampNeg (.long sc)), (lc_16.set (((f1_16 + z1_16) &&& (7 : Int32))).toNatClampNeg .null), f1_16, (z1_16 + (1 : Int32)), t1, Sl1_16, Sl2_16, Sl3_16, Sl4_16, G38_0, G38_1, G38_2, G38_3, G38_4, G38_5, (hA ▸ G38_6), G38_7, G38_8, G38_9, H38_0, H38_1, H38_2, SB1_16, (by have := c_iadd z1_16 1; have e1 : (1 : Int32).toInt = 1 := rfl; have := rng32 (z1_16 + 1); have := SB2_16; omega), (Int.le_refl _)⟩
  rw [ea16, eh16] at ns43
  have nS43 : own_SS Z T38.heap zN.toNatClampNeg ff (t1.toInt) (KK + 1) := own_SS.upd F21 (own_lti ib15.1 ib15.2) Kp38 (allS (P := fun y : Nat => ff (s1).toNatClampNeg ≤ y ∧ y < ff ((s1).toNatClampNeg + 1)) (by omega) (allS (P := fun y : Nat => ff (s1).toNatClampNeg ≤ y ∧ y < ff ((s1).toNatClampNeg + 1)) (by omega) (allS (P := fun y : Nat => ff (s1).toNatClampNeg ≤ y ∧ y < ff ((s1).toNatClampNeg + 1)) (by omega) (allS (P := fun y : Nat => ff (s1).toNatClampNeg ≤ y ∧ y < ff ((s1).toNatClampNeg + 1)) (by omega) all0)))) ns43 hT (by omega)
  refine own_go (fun _ => XS.aloadN X38.here hx rfl (hb hby d13_57) rfl rfl) ?_
  refine own_go (fun _ => XS.dup X38.here hx rfl (hb hby d13_58) rfl rfl) ?_
  have ne44 : q1 ≠ ac_16 := own_ne (by omega)
  have ne45 : q1 ≠ ap_16 := own_ne (by omega)
  have ne46 : q1 ≠ am_16 := own_ne (by omega)
  have ne47 : q1 ≠ aa16 := own_ne (by omega)
  have F48 := (Fld.keep (Fld.other W20 P11 (Or.inr (slot_ne (a0 := a0) (Or.inl w_78) (Or.inl w_87) (by decide) (t := .int) (t' := .long) (by decide) (by decide)))) Kp38 (ninS ne47 (ninS ne46 (ninS ne45 (ninS ne44 nin0)))))
  obtain ⟨T49, X49, e49, st49⟩ := getF X38 hx hZ hown (host := "") (Or.inl w_77) Via.refl rfl F48 (g := (mkF m 59 #[.val (.ref q1), .val (.int s1), .val (.double A1), .second, .val .null, .val (.ref aa16)] [(.ref q1), (.ref q1)])) rfl rfl (hb hby d13_59)
  refine own_go st49 ?_
  refine own_go (fun _ => XS.iconst X49.here hx rfl (hb hby d13_62)) ?_
  refine own_go (fun _ => XS.iadd X49.here hx rfl (hb hby d13_63) rfl) ?_
  have F50 := (Exa.keep (Exa.wr W20 P1) Kp38)
  obtain ⟨T51, h51, X51, e51, W51, st51⟩ := putF X49 hx hZ hown (host := "") (Or.inl w_77) Via.refl e49 F48 F50 (Or.inl w_78) w_5 (ty := .int) (by decide) rfl rfl (g := (mkF m 64 #[.val (.ref q1), .val (.int s1), .val (.double A1), .second, .val .null, .val (.ref aa16)] [(.int (sz + (1 : Int32))), (.ref q1)])) rfl rfl (hb hby d13_64)
  refine own_go st51 ?_
  have le_51 : T38.heap.size ≤ h51.size := Nat.le_of_eq W51.size.symm
  have K51 : Keep h0 h51 (own_up n0 h0) := Keep.wr K38 W51 (own_up_or gq)
  have N51 := Fr.snoc X51 N38 gq
  have Fw51 := Fld.same W51 F48
  refine own_go (fun _ => XS.aload X51.here hx rfl (hb hby d13_67) rfl rfl) ?_
  show ∃ t o, Steps p.tables e below (T51.setTop (mkF m 69 #[.val (.ref q1), .val (.int s1), .val (.double A1), .second, .val .null, .val (.ref aa16)] [(.ref aa16)])) t ∧ _
  have F52 := (Fld.other W51 G38_5 (Or.inl ne23))
  obtain ⟨T53, X53, e53, st53⟩ := own_getR X51 hx hZ hown (hw _ (List.mem_of_getElem? (i := 98) rfl)) e51 F52 (g := (mkF m 69 #[.val (.ref q1), .val (.int s1), .val (.double A1), .second, .val .null, .val (.ref aa16)] [(.ref aa16)])) rfl rfl (hb hby d13_69)
  refine own_go st53 ?_
  refine own_go (fun _ => XS.iconst X53.here hx rfl (hb hby d13_72)) ?_
  show ∃ t o, Steps p.tables e below (T53.setTop (mkF m 73 #[.val (.ref q1), .val (.int s1), .val (.double A1), .second, .val .null, .val (.ref aa16)] [(.int (1 : Int32)), (.int (z1_16 + (1 : Int32)))])) t ∧ _
  by_cases hc54 : (z1_16 + (1 : Int32)) = (1 : Int32)
  · refine own_go (fun _ => XS.icmpNo X53.here hx rfl (hb hby d13_73) rfl (teq hc54).2) ?_
    refine own_go (fun _ => XS.aloadN X53.here hx rfl (hb hby d13_76) rfl rfl) ?_
    refine own_go (fun _ => XS.iloadN X53.here hx rfl (hb hby d13_77) rfl) ?_
    refine own_go (fun _ => XS.iconst X53.here hx rfl (hb hby d13_78)) ?_
    show ∃ t o, Steps p.tables e below (T53.setTop (mkF m 79 #[.val (.ref q1), .val (.int s1), .val (.double A1), .second, .val .null, .val (.ref aa16)] [(.int (1 : Int32)), (.int s1), (.ref q1)])) t ∧ _
    have F55 := (Exa.wr W51 F50)
    have F56 := (Fld.other W51 (Fld.keep (Fld.other W20 P2 (Or.inr (slot_ne (a0 := a0) (Or.inr w_31) (Or.inl w_87) (by decide) (t := (.array .double)) (t' := .long) (by decide) (by decide)))) Kp38 (ninS ne47 (ninS ne46 (ninS ne45 (ninS ne44 nin0))))) (Or.inr (slot_ne (a0 := a0) (Or.inr w_31) (Or.inl w_78) (by decide) (t := (.array .double)) (t' := .int) (by decide) (by decide))))
    have F57 := (Fld.other W51 (Fld.keep (Fld.other W20 P3 (Or.inr (slot_ne (a0 := a0) (Or.inr w_34) (Or.inl w_87) (by decide) (t := (.array .long)) (t' := .long) (by decide) (by decide)))) Kp38 (ninS ne47 (ninS ne46 (ninS ne45 (ninS ne44 nin0))))) (Or.inr (slot_ne (a0 := a0) (Or.inr w_34) (Or.inl w_78) (by decide) (t := (.array .long)) (t' := .int) (by decide) (by decide))))
    have F58 := (Fld.other W51 (Fld.keep (Fld.other W20 P4 (Or.inr (slot_ne (a0 := a0) (Or.inr w_37) (Or.inl w_87) (by decide) (t := (.array .int)) (t' := .long) (by decide) (by decide)))) Kp38 (ninS ne47 (ninS ne46 (ninS ne45 (ninS ne44 nin0))))) (Or.inr (slot_ne (a0 := a0) (Or.inr w_37) (Or.inl w_78) (by decide) (t := (.array .int)) (t' := .int) (by decide) (by decide))))
    have ne59 : fa ≠ q1 := own_ne (by omega)
    have ne60 : fa ≠ ac_16 := own_ne (by omega)
    have ne61 : fa ≠ ap_16 := own_ne (by omega)
    have ne62 : fa ≠ am_16 := own_ne (by omega)
    have ne63 : fa ≠ aa16 := own_ne (by omega)
    have F64 := (Arv.other (Arv.keep (Arv.other P5 W20 ne59) Kp38 (ninS ne63 (ninS ne62 (ninS ne61 (ninS ne60 nin0))))) W51 ne59)
    have ne65 : fp ≠ q1 := own_ne (by omega)
    have ne66 : fp ≠ ac_16 := own_ne (by omega)
    have ne67 : fp ≠ ap_16 := own_ne (by omega)
    have ne68 : fp ≠ am_16 := own_ne (by omega)
    have ne69 : fp ≠ aa16 := own_ne (by omega)
    have F70 := (Arv.other (Arv.keep (Arv.other P6 W20 ne65) Kp38 (ninS ne69 (ninS ne68 (ninS ne67 (ninS ne66 nin0))))) W51 ne65)
    have ne71 : wi ≠ q1 := own_ne (by omega)
    have ne72 : wi ≠ ac_16 := own_ne (by omega)
    have ne73 : wi ≠ ap_16 := own_ne (by omega)
    have ne74 : wi ≠ am_16 := own_ne (by omega)
    have ne75 : wi ≠ aa16 := own_ne (by omega)
    have F76 := (Arv.other (Arv.keep (Arv.other P7 W20 ne71) Kp38 (ninS ne75 (ninS ne74 (ninS ne73 (ninS ne72 nin0))))) W51 ne71)
    have F77 := (Fld.other W51 (Fld.keep (Fld.other W20 P8 (Or.inr (slot_ne (a0 := a0) (Or.inr w_28) (Or.inl w_87) (by decide) (t := (.array (.object "com/example/holdback/holdback/sim/EventQueue$Stream"))) (t' := .long) (by decide) (by decide)))) Kp38 (ninS ne47 (ninS ne46 (ninS ne45 (ninS ne44 nin0))))) (Or.inr (slot_ne (a0 := a0) (Or.inr w_28) (Or.inl w_78) (by decide) (t := (.array (.object "com/example/holdback/holdback/sim/EventQueue$Stream"))) (t' := .int) (by decide) (by decide))))
    have ne78 : ss ≠ q1 := own_ne (by omega)
    have ne79 : ss ≠ ac_16 := own_ne (by omega)
    have ne80 : ss ≠ ap_16 := own_ne (by omega)
    have ne81 : ss ≠ am_16 := own_ne (by omega)
    have ne82 : ss ≠ aa16 := own_ne (by omega)
    have F83 := (Arv.other (Arv.keep (Arv.other P9 W20 ne78) Kp38 (ninS ne82 (ninS ne81 (ninS ne80 (ninS ne79 nin0))))) W51 ne78)
    have F84 := (own_SS.wr nS43 W51 (show (q1 : Nat) < (ff 0) by omega))
    have F85 := (Old.wr (Old.keep F36 Kp38 (allS ge39 (allS ge40 (allS ge41 (allS ge42 all0))))) W51 gq)
    have zl86 : n0 ≤ h51.size := by omega
    obtain ⟨cq87, q87, q87'⟩ := F55.cell
    obtain ⟨_, _, ⟨T87, L87, k87, n87⟩, -, X87, ⟨Lc87, hQ87, l87, y87, z87⟩, st87⟩ := X53.privateBack hx (y := (⟨"com/example/holdback/holdback/sim/EventQueue", "firstChanged", "(IZ)V"⟩ : MethodName)) hown (mvT hZ (hw _ (List.mem_of_getElem? (i := 99) rfl))) (mvT hZ w_100) (mvT hZ (own_selp (y := (⟨"com/example/holdback/holdback/sim/EventQueue", "firstChanged", "(IZ)V"⟩ : MethodName)) (hw _ (List.mem_of_getElem? (i := 75) rfl)) rfl w_101 w_100 (by decide))) (Cond.privateMethod_at (mvP hZ w_101 (args := #[]))) (mvT hZ w_102) (by decide) (backOf (W := 0) (rmFC1 l Z a0 hw [] q1 fa fp wi kf kp kw ds ls wl zN z2 ss ks vs ff (t1.toInt) (KK + 1) s1 h51 n0 zl86 F55 F56 F57 F58 F64 F70 F76 F77 F83 F84 F85 GD GJ GW HN HR o1 o2 o3 o4 o5 gq hs) hZ w_102 (hw _ (List.mem_of_getElem? (i := 6) rfl)) (by decide) (by decide)) (g := (mkF m 79 #[.val (.ref q1), .val (.int s1), .val (.double A1), .second, .val .null, .val (.ref aa16)] [(.int (1 : Int32)), (.int s1), (.ref q1)])) rfl (by rw [hml]; rfl) (Steps.refl _) (a := q1) (by rw [e53]; exact q87) q87' (argsL := [(.int s1), (.int (1 : Int32))]) (rest := []) (lenOf pd__28IZ_29V rfl) rfl (by show 2 * 0 + _ ≤ _; exact Nat.le_of_eq rfl) (hb hby d13_79) (fun _ _ => ⟨rfl, e53, (by decide : 0 + 0 ≤ _), (by decide : 0 + 0 ≤ _)⟩)
    dsimp only [Pt.U, Pt.locs, Pt.cells, Pt.slots] at X87 l87 y87 z87 st87 hQ87
    rw [l87, y87, z87] at X87
    obtain ⟨ds2_87, ls2_87, wl2_87, rfl, Nq87, Kp87, G87_0, G87_1, G87_2, H87_0, H87_1, H87_2⟩ := hQ87
    have N87 := Fr.app N51 Nq87
    refine own_goT st87 ?_
    have le_87 : h51.size ≤ T87.heap.size := Kp87.1
    have ge88 : n0 ≤ fa := by omega
    have ge89 : n0 ≤ fp := by omega
    have ge90 : n0 ≤ wi := by omega
    have K87 : Keep h0 T87.heap (own_up n0 h0) := Keep.trans K51 Kp87 (allS (own_up_or ge88) (allS (own_up_or ge89) (allS (own_up_or ge90) all0)))
    show ∃ t o, Steps p.tables e below (T87.setTop (mkF m 82 #[.val (.ref q1), .val (.int s1), .val (.double A1), .second, .val .null, .val (.ref aa16)] [])) t ∧ _
    have F91 := (Exa.keep F55 Kp87)
    have ne92 : q1 ≠ wi := own_ne (by omega)
    have ne93 : q1 ≠ fp := own_ne (by omega)
    have ne94 : q1 ≠ fa := own_ne (by omega)
    have F95 := (Fld.keep F56 Kp87 (ninS ne94 (ninS ne93 (ninS ne92 nin0))))
    have F96 := (Fld.keep F57 Kp87 (ninS ne94 (ninS ne93 (ninS ne92 nin0))))
    have F97 := (Fld.keep F58 Kp87 (ninS ne94 (ninS ne93 (ninS ne92 nin0))))
    have F98 := (Fld.keep F77 Kp87 (ninS ne94 (ninS ne93 (ninS ne92 nin0))))
    have ne99 : ss ≠ wi := own_ne (by omega)
    have ne100 : ss ≠ fp := own_ne (by omega)
    have ne101 : ss ≠ fa := own_ne (by omega)
    have F102 := (Arv.keep F83 Kp87 (ninS ne101 (ninS ne100 (ninS ne99 nin0))))
    have F103 := (own_SS.keep F84 Kp87 (allS (show (fa : Nat) < (ff 0) by omega) (allS (show (fp : Nat) < (ff 0) by omega) (allS (show (wi : Nat) < (ff 0) by omega) all0))))
    have F104 := (Fld.keep Fw51 Kp87 (ninS ne94 (ninS ne93 (ninS ne92 nin0))))
    have F105 := (Fld.keep (Fld.other W51 (Fld.keep Fw20 Kp38 (ninS ne47 (ninS ne46 (ninS ne45 (ninS ne44 nin0))))) (Or.inr (slot_ne (a0 := a0) (Or.inl w_87) (Or.inl w_78) (by decide) (t := .long) (t' := .int) (by decide) (by decide)))) Kp87 (ninS ne94 (ninS ne93 (ninS ne92 nin0))))
    obtain ⟨fs, hr, hrun, hended, hW, hsame⟩ := X87.leave (v := none) (fun _ => rfl)
    refine ⟨_, _, ?_, hrun, hended, _, _, rfl, ?_, ⟨_, rfl⟩, hW, hsame.mono (by decide) (by decide)⟩
    · exact X87.returnOut hx Bd.returns (hb hby d13_82) hr
    · show Q_rmAdd Z _ _ _ _ _ _ _ _ _ _ _ _ _ _ _ _ _ _ _ _ _ _ _ h0 n0 _ T87.heap _
      exact ⟨ds2_87, ls2_87, wl2_87, rfl, N87, K87, F91, F95, F96, F97, G87_0, G87_1, G87_2, F98, F102, F103, F104, F105, H87_0, H87_1, H87_2⟩
  · refine own_go (fun _ => XS.icmpYes X53.here hx rfl (pc0 := 73) (pc' := 82) rfl (hb hby d13_73) rfl (feq hc54).2 (by decide) (by decide)) ?_
    show ∃ t o, Steps p.tables e below (T53.setTop (mkF m 82 #[.val (.ref q1), .val (.int s1), .val (.double A1), .second, .val .null, .val (.ref aa16)] [])) t ∧ _
    have F106 := (Exa.wr W51 F50)
    have F107 := (Fld.other W51 (Fld.keep (Fld.other W20 P2 (Or.inr (slot_ne (a0 := a0) (Or.inr w_31) (Or.inl w_87) (by decide) (t := (.array .double)) (t' := .long) (by decide) (by decide)))) Kp38 (ninS ne47 (ninS ne46 (ninS ne45 (ninS ne44 nin0))))) (Or.inr (slot_ne (a0 := a0) (Or.inr w_31) (Or.inl w_78) (by decide) (t := (.array .double)) (t' := .int) (by decide) (by decide))))
    have F108 := (Fld.other W51 (Fld.keep (Fld.other W20 P3 (Or.inr (slot_ne (a0 := a0) (Or.inr w_34) (Or.inl w_87) (by decide) (t := (.array .long)) (t' := .long) (by decide) (by decide)))) Kp38 (ninS ne47 (ninS ne46 (ninS ne45 (ninS ne44 nin0))))) (Or.inr (slot_ne (a0 := a0) (Or.inr w_34) (Or.inl w_78) (by decide) (t := (.array .long)) (t' := .int) (by decide) (by decide))))
    have F109 := (Fld.other W51 (Fld.keep (Fld.other W20 P4 (Or.inr (slot_ne (a0 := a0) (Or.inr w_37) (Or.inl w_87) (by decide) (t := (.array .int)) (t' := .long) (by decide) (by decide)))) Kp38 (ninS ne47 (ninS ne46 (ninS ne45 (ninS ne44 nin0))))) (Or.inr (slot_ne (a0 := a0) (Or.inr w_37) (Or.inl w_78) (by decide) (t := (.array .int)) (t' := .int) (by decide) (by decide))))
    have ne110 : fa ≠ q1 := own_ne (by omega)
    have ne111 : fa ≠ ac_16 := own_ne (by omega)
    have ne112 : fa ≠ ap_16 := own_ne (by omega)
    have ne113 : fa ≠ am_16 := own_ne (by omega)
    have ne114 : fa ≠ aa16 := own_ne (by omega)
    have F115 := (Arv.other (Arv.keep (Arv.other P5 W20 ne110) Kp38 (ninS ne114 (ninS ne113 (ninS ne112 (ninS ne111 nin0))))) W51 ne110)
    have ne116 : fp ≠ q1 := own_ne (by omega)
    have ne117 : fp ≠ ac_16 := own_ne (by omega)
    have ne118 : fp ≠ ap_16 := own_ne (by omega)
    have ne119 : fp ≠ am_16 := own_ne (by omega)
    have ne120 : fp ≠ aa16 := own_ne (by omega)
    have F121 := (Arv.other (Arv.keep (Arv.other P6 W20 ne116) Kp38 (ninS ne120 (ninS ne119 (ninS ne118 (ninS ne117 nin0))))) W51 ne116)
    have ne122 : wi ≠ q1 := own_ne (by omega)
    have ne123 : wi ≠ ac_16 := own_ne (by omega)
    have ne124 : wi ≠ ap_16 := own_ne (by omega)
    have ne125 : wi ≠ am_16 := own_ne (by omega)
    have ne126 : wi ≠ aa16 := own_ne (by omega)
    have F127 := (Arv.other (Arv.keep (Arv.other P7 W20 ne122) Kp38 (ninS ne126 (ninS ne125 (ninS ne124 (ninS ne123 nin0))))) W51 ne122)
    have F128 := (Fld.other W51 (Fld.keep (Fld.other W20 P8 (Or.inr (slot_ne (a0 := a0) (Or.inr w_28) (Or.inl w_87) (by decide) (t := (.array (.object "com/example/holdback/holdback/sim/EventQueue$Stream"))) (t' := .long) (by decide) (by decide)))) Kp38 (ninS ne47 (ninS ne46 (ninS ne45 (ninS ne44 nin0))))) (Or.inr (slot_ne (a0 := a0) (Or.inr w_28) (Or.inl w_78) (by decide) (t := (.array (.object "com/example/holdback/holdback/sim/EventQueue$Stream"))) (t' := .int) (by decide) (by decide))))
    have ne129 : ss ≠ q1 := own_ne (by omega)
    have ne130 : ss ≠ ac_16 := own_ne (by omega)
    have ne131 : ss ≠ ap_16 := own_ne (by omega)
    have ne132 : ss ≠ am_16 := own_ne (by omega)
    have ne133 : ss ≠ aa16 := own_ne (by omega)
    have F134 := (Arv.other (Arv.keep (Arv.other P9 W20 ne129) Kp38 (ninS ne133 (ninS ne132 (ninS ne131 (ninS ne130 nin0))))) W51 ne129)
    have F135 := (own_SS.wr nS43 W51 (show (q1 : Nat) < (ff 0) by omega))
    have F136 := (Fld.other W51 (Fld.keep Fw20 Kp38 (ninS ne47 (ninS ne46 (ninS ne45 (ninS ne44 nin0))))) (Or.inr (slot_ne (a0 := a0) (Or.inl w_87) (Or.inl w_78) (by decide) (t := .long) (t' := .int) (by decide) (by decide))))
    obtain ⟨fs, hr, hrun, hended, hW, hsame⟩ := X53.leave (v := none) (fun _ => rfl)
    refine ⟨_, _, ?_, hrun, hended, _, _, rfl, ?_, ⟨_, rfl⟩, hW, hsame.mono (by decide) (by decide)⟩
    · exact X53.returnOut hx Bd.returns (hb hby d13_82) hr
    · show Q_rmAdd Z _ _ _ _ _ _ _ _ _ _ _ _ _ _ _ _ _ _ _ _ _ _ _ h0 n0 _ T53.heap _
      rw [e53]
      exact ⟨ds, ls, wl, rfl, N51, K51, F106, F107, F108, F109, F115, F121, F127, F128, F134, F135, Fw51, F136, GD, GJ, GW⟩
theorem ef_rmReq (m : MethodId) (x0 : Nat) : entryFrame m #[(.ref x0)] 1 = mkF m 0 #[.val (.ref x0)] [] := by first | (simp [entryFrame, mkF, argsToLocals, Value.category]; done) | rfl
theorem d17_0 : decode prog_164_method_7_code 0 = .ok (.aload_n 0, 1) := by decide +kernel
theorem d17_1 : decode prog_164_method_7_code 1 = .ok (.getfield 73, 3) := by decide +kernel
theorem d17_4 : decode prog_164_method_7_code 4 = .ok (.ifCond .ne 13, 3) := by decide +kernel
theorem d17_17 : decode prog_164_method_7_code 17 = .ok (.return_, 1) := by decide +kernel
def Q_rmReq (Z : State) (q1 : Nat) (sz : Int32) (h0 : Heap) (n0 : Nat) (v : Option Value) (h : Heap) (L : List Loc) : Prop := v = none ∧ Fr n0 L ∧ h = h0
set_option maxRecDepth 65536 in
set_option maxHeartbeats 40000000 in
theorem rmReq (l : Launch) (Z : State) (a0 : Array Value) (hw : ∀ d ∈ tables_1, d.before a0 Z = true) (ws : List Jvm.Cond) (q1 : Nat) (sz : Int32) (h0 : Heap) (n0 : Nat) (Z0 : n0 ≤ h0.size) (P1 : Fld Z h0 q1 "com/example/holdback/holdback/sim/EventQueue" "size" "I" (.int sz)) (OLD : Old Z n0 h0) (hz : ¬ (sz = (0 : Int32))) :
    MetFree l (⟨"com/example/holdback/holdback/sim/EventQueue", "requireEvent", "()V"⟩ : MethodName) (head1 (Jvm.Cond.code (⟨"com/example/holdback/holdback/sim/EventQueue", "requireEvent", "()V"⟩ : MethodName) prog_164_method_7_code 1 none :: ws) ({ frames := 0, cells := 0, slots := 0, locals := 0 } : Room)) (fun a U => a = #[(.ref q1)] ∧ Z.Warmed39 U.vm ∧ U.heap = h0) (fun _ _ _ _ _ => True) (fun _ U o U' => ∃ v L, o = .returned v ∧ Q_rmReq Z q1 sz h0 n0 v U'.heap L ∧ FrameEnd U o U' L ({ frames := 0, cells := 0, slots := 0, locals := 0 } : Room).cells ({ frames := 0, cells := 0, slots := 0, locals := 0 } : Room).slots) := by
  refine MetFree.of_bodySF (plainFor_of_name pn_com_example_holdback_holdback_sim_EventQueue) hisR ?_
  intro p e s m args below meth c s₁ Bd hml0 hP hK
  obtain ⟨rfl, hZ, hh⟩ := hP
  have hx := Bd.exec
  have hby := Bd.bytes
  have hml : c.maxLocals = 1 := hml0
  have hown : s.vm.findClass "com/example/holdback/holdback/sim/EventQueue" = some m.cls := findClass_of_methodNamed Bd.named
  have hnm := (name_of_methodNamed Bd.named Bd.method).1
  have X0 : Stand p l e ({ frames := 0, cells := 0, slots := 0, locals := 0 } : Room) s m #[(.ref q1)] below meth c s₁ [] 0 0 := Stand.of_body Bd
  have e0 : s₁.heap = h0 := by rw [← hh, Bd.state]; rfl
  have N0 := Fr.nil n0
  have pre0 : ∀ t, Steps p.tables e below (s₁.setTop (mkF m 0 #[.val (.ref q1)] [])) t → Steps p.tables e below (s₁.setTop (entryFrame m #[(.ref q1)] 1)) t := fun t k => castTop (ef_rmReq m q1) k
  have oz := OLD.1
  have lt_q1 : q1 < h0.size := P1.lt
  refine own_go (B := s₁.setTop (mkF m 0 #[.val (.ref q1)] [])) pre0 ?_
  show ∃ t o, Steps p.tables e below (s₁.setTop (mkF m 0 #[.val (.ref q1)] [])) t ∧ _
  refine own_go (fun _ => XS.aloadN X0.here hx rfl (hb hby d17_0) rfl rfl) ?_
  obtain ⟨T2, X2, e2, st2⟩ := getF X0 hx hZ hown (host := "") (Or.inl (hw _ (List.mem_of_getElem? (i := 77) rfl))) Via.refl e0 P1 (g := (mkF m 1 #[.val (.ref q1)] [(.ref q1)])) rfl rfl (hb hby d17_1)
  refine own_go st2 ?_
  show ∃ t o, Steps p.tables e below (T2.setTop (mkF m 4 #[.val (.ref q1)] [(.int sz)])) t ∧ _
  refine own_go (fun _ => XS.ifYes X2.here hx rfl (pc0 := 4) (pc' := 17) rfl (hb hby d17_4) rfl ((if0 _ _).trans (feq hz).2) (by decide) (by decide)) ?_
  show ∃ t o, Steps p.tables e below (T2.setTop (mkF m 17 #[.val (.ref q1)] [])) t ∧ _
  obtain ⟨fs, hr, hrun, hended, hW, hsame⟩ := X2.leave (v := none) (fun _ => rfl)
  refine ⟨_, _, ?_, hrun, hended, _, _, rfl, ?_, ⟨_, rfl⟩, hW, hsame.mono (by decide) (by decide)⟩
  · exact X2.returnOut hx Bd.returns (hb hby d17_17) hr
  · show Q_rmReq Z _ _ h0 n0 _ T2.heap _
    rw [e2]
    exact ⟨rfl, N0, rfl⟩
theorem ef_rmPoll (m : MethodId) (x0 : Nat) : entryFrame m #[(.ref x0)] 3 = mkF m 0 #[.val (.ref x0), .unset, .unset] [] := by first | (simp [entryFrame, mkF, argsToLocals, Value.category]; done) | rfl
theorem d16_0 : decode prog_164_method_6_code 0 = .ok (.aload_n 0, 1) := by decide +kernel
theorem d16_1 : decode prog_164_method_6_code 1 = .ok (.invokevirtual 82, 3) := by decide +kernel
theorem pd__28_29V : parseMethodDescriptor "()V" = some ⟨[], none⟩ := by decide +kernel
theorem d16_4 : decode prog_164_method_6_code 4 = .ok (.aload_n 0, 1) := by decide +kernel
theorem d16_5 : decode prog_164_method_6_code 5 = .ok (.getfield 35, 3) := by decide +kernel
theorem d16_8 : decode prog_164_method_6_code 8 = .ok (.iconst 1, 1) := by decide +kernel
theorem d16_9 : decode prog_164_method_6_code 9 = .ok (.iaload, 1) := by decide +kernel
theorem d16_10 : decode prog_164_method_6_code 10 = .ok (.istore_n 1, 1) := by decide +kernel
theorem d16_11 : decode prog_164_method_6_code 11 = .ok (.aload_n 0, 1) := by decide +kernel
theorem d16_12 : decode prog_164_method_6_code 12 = .ok (.getfield 21, 3) := by decide +kernel
theorem d16_15 : decode prog_164_method_6_code 15 = .ok (.iload_n 1, 1) := by decide +kernel
theorem d16_16 : decode prog_164_method_6_code 16 = .ok (.aaload, 1) := by decide +kernel
theorem d16_17 : decode prog_164_method_6_code 17 = .ok (.invokevirtual 85, 3) := by decide +kernel
theorem pd__28_29Ljava_2flang_2fRunnable_3b : parseMethodDescriptor "()Ljava/lang/Runnable;" = some ⟨[], some (.object "java/lang/Runnable")⟩ := by decide +kernel
theorem d16_20 : decode prog_164_method_6_code 20 = .ok (.astore_n 2, 1) := by decide +kernel
theorem d16_21 : decode prog_164_method_6_code 21 = .ok (.aload_n 0, 1) := by decide +kernel
theorem d16_22 : decode prog_164_method_6_code 22 = .ok (.dup, 1) := by decide +kernel
theorem d16_23 : decode prog_164_method_6_code 23 = .ok (.getfield 73, 3) := by decide +kernel
theorem d16_26 : decode prog_164_method_6_code 26 = .ok (.iconst 1, 1) := by decide +kernel
theorem d16_27 : decode prog_164_method_6_code 27 = .ok (.isub, 1) := by decide +kernel
theorem d16_28 : decode prog_164_method_6_code 28 = .ok (.putfield 73, 3) := by decide +kernel
theorem d16_31 : decode prog_164_method_6_code 31 = .ok (.aload_n 0, 1) := by decide +kernel
theorem d16_32 : decode prog_164_method_6_code 32 = .ok (.iload_n 1, 1) := by decide +kernel
theorem d16_33 : decode prog_164_method_6_code 33 = .ok (.iconst 0, 1) := by decide +kernel
theorem d16_34 : decode prog_164_method_6_code 34 = .ok (.invokevirtual 78, 3) := by decide +kernel
theorem d16_37 : decode prog_164_method_6_code 37 = .ok (.aload_n 2, 1) := by decide +kernel
theorem d16_38 : decode prog_164_method_6_code 38 = .ok (.areturn, 1) := by decide +kernel
def Q_rmPoll (Z : State) (q1 : Nat) (fa : Nat) (fp : Nat) (wi : Nat) (kf : ClassId) (kp : ClassId) (kw : ClassId) (ds : List Value) (ls : List Value) (wl : List Value) (zN : Int32) (z2 : Int32) (ss : Nat) (ks : ClassId) (vs : List Value) (ff : Nat → Nat) (TT : Int) (KK : Int) (sz : Int32) (sc : Int64) (h0 : Heap) (n0 : Nat) (v : Option Value) (h : Heap) (L : List Loc) : Prop := ∃ (ds2 : List Value), ∃ (ls2 : List Value), ∃ (wl2 : List Value), v = some .null ∧ Fr n0 L ∧ Keep h0 h (own_up n0 h0) ∧ Exa Z h q1 "com/example/holdback/holdback/sim/EventQueue" ∧ Fld Z h q1 "com/example/holdback/holdback/sim/EventQueue" "firstAt" "[D" (.ref fa) ∧ Fld Z h q1 "com/example/holdback/holdback/sim/EventQueue" "firstPlace" "[J" (.ref fp) ∧ Fld Z h q1 "com/example/holdback/holdback/sim/EventQueue" "winners" "[I" (.ref wi) ∧ Arv Z h fa kf .double zN ds2 (.double (0 : UInt64)) ∧ Arv Z h fp kp .long zN ls2 (.long (0 : Int64)) ∧ Arv Z h wi kw .int z2 wl2 (.int (0 : Int32)) ∧ Fld Z h q1 "com/example/holdback/holdback/sim/EventQueue" "streams" "[Lcom/example/holdback/holdback/sim/EventQueue$Stream;" (.ref ss) ∧ Arv Z h ss ks (.object "com/example/holdback/holdback/sim/EventQueue$Stream") zN vs .null ∧ own_SS Z h zN.toNatClampNeg ff TT (KK + 1) ∧ Fld Z h q1 "com/example/holdback/holdback/sim/EventQueue" "size" "I" (.int (sz - (1 : Int32))) ∧ Fld Z h q1 "com/example/holdback/holdback/sim/EventQueue" "scheduled" "J" (.long sc) ∧ (own_G own_pd (.double (0 : UInt64)) zN ds2) ∧ (own_G own_pj (.long (0 : Int64)) zN ls2) ∧ (own_G (own_pw zN) (.int (0 : Int32)) z2 wl2)
set_option maxRecDepth 65536 in
set_option maxHeartbeats 40000000 in
theorem rmPoll (l : Launch) (Z : State) (a0 : Array Value) (hw : ∀ d ∈ tables_1, d.before a0 Z = true) (ws : List Jvm.Cond) (q1 : Nat) (fa : Nat) (fp : Nat) (wi : Nat) (kf : ClassId) (kp : ClassId) (kw : ClassId) (ds : List Value) (ls : List Value) (wl : List Value) (zN : Int32) (z2 : Int32) (ss : Nat) (ks : ClassId) (vs : List Value) (ff : Nat → Nat) (TT : Int) (KK : Int) (sz : Int32) (sc : Int64) (h0 : Heap) (n0 : Nat) (Z0 : n0 ≤ h0.size) (P1 : Exa Z h0 q1 "com/example/holdback/holdback/sim/EventQueue") (P2 : Fld Z h0 q1 "com/example/holdback/holdback/sim/EventQueue" "firstAt" "[D" (.ref fa)) (P3 : Fld Z h0 q1 "com/example/holdback/holdback/sim/EventQueue" "firstPlace" "[J" (.ref fp)) (P4 : Fld Z h0 q1 "com/example/holdback/holdback/sim/EventQueue" "winners" "[I" (.ref wi)) (P5 : Arv Z h0 fa kf .double zN ds (.double (0 : UInt64))) (P6 : Arv Z h0 fp kp .long zN ls (.long (0 : Int64))) (P7 : Arv Z h0 wi kw .int z2 wl (.int (0 : Int32))) (P8 : Fld Z h0 q1 "com/example/holdback/holdback/sim/EventQueue" "streams" "[Lcom/example/holdback/holdback/sim/EventQueue$Stream;" (.ref ss)) (P9 : Arv Z h0 ss ks (.object "com/example/holdback/holdback/sim/EventQueue$Stream") zN vs .null) (P10 : own_SS Z h0 zN.toNatClampNeg ff TT KK) (P11 : Fld Z h0 q1 "com/example/holdback/holdback/sim/EventQueue" "size" "I" (.int sz)) (P12 : Fld Z h0 q1 "com/example/holdback/holdback/sim/EventQueue" "scheduled" "J" (.long sc)) (OLD : Old Z n0 h0) (GD : own_G own_pd (.double (0 : UInt64)) zN ds) (GJ : own_G own_pj (.long (0 : Int64)) zN ls) (GW : own_G (own_pw zN) (.int (0 : Int32)) z2 wl) (HN : own_N zN z2) (HR : own_R zN ff vs) (o1 : q1 < ss) (o2 : ss < fa) (o3 : fa < fp) (o4 : fp < wi) (o5 : wi < ff 0) (gq : n0 ≤ q1) (hK : 0 ≤ KK ∧ KK ≤ 6) (hz : ¬ (sz = (0 : Int32))) :
    MetFree l (⟨"com/example/holdback/holdback/sim/EventQueue", "poll", "()Ljava/lang/Runnable;"⟩ : MethodName) (head1 (Jvm.Cond.code (⟨"com/example/holdback/holdback/sim/EventQueue", "poll", "()Ljava/lang/Runnable;"⟩ : MethodName) prog_164_method_6_code 3 (some (.object "java/lang/Runnable")) :: ws) ({ frames := 5, cells := 0, slots := 0, locals := 125 } : Room)) (fun a U => a = #[(.ref q1)] ∧ Z.Warmed39 U.vm ∧ U.heap = h0) (fun _ _ _ _ _ => True) (fun _ U o U' => ∃ v L, o = .returned v ∧ Q_rmPoll Z q1 fa fp wi kf kp kw ds ls wl zN z2 ss ks vs ff TT KK sz sc h0 n0 v U'.heap L ∧ FrameEnd U o U' L ({ frames := 5, cells := 0, slots := 0, locals := 125 } : Room).cells ({ frames := 5, cells := 0, slots := 0, locals := 125 } : Room).slots) := by
  refine MetFree.of_bodySF (plainFor_of_name pn_com_example_holdback_holdback_sim_EventQueue) hisR ?_
  intro p e s m args below meth c s₁ Bd hml0 hP hK
  obtain ⟨rfl, hZ, hh⟩ := hP
  have hx := Bd.exec
  have hby := Bd.bytes
  have hml : c.maxLocals = 3 := hml0
  have hown : s.vm.findClass "com/example/holdback/holdback/sim/EventQueue" = some m.cls := findClass_of_methodNamed Bd.named
  have hnm := (name_of_methodNamed Bd.named Bd.method).1
  have X0 : Stand p l e ({ frames := 5, cells := 0, slots := 0, locals := 125 } : Room) s m #[(.ref q1)] below meth c s₁ [] 0 0 := Stand.of_body Bd
  have e0 : s₁.heap = h0 := by rw [← hh, Bd.state]; rfl
  have N0 := Fr.nil n0
  have pre0 : ∀ t, Steps p.tables e below (s₁.setTop (mkF m 0 #[.val (.ref q1), .unset, .unset] [])) t → Steps p.tables e below (s₁.setTop (entryFrame m #[(.ref q1)] 3)) t := fun t k => castTop (ef_rmPoll m q1) k
  have w_100 := hw _ (List.mem_of_getElem? (i := 100) rfl)
  have w_101 := hw _ (List.mem_of_getElem? (i := 101) rfl)
  have w_102 := hw _ (List.mem_of_getElem? (i := 102) rfl)
  have w_112 := hw _ (List.mem_of_getElem? (i := 112) rfl)
  have w_113 := hw _ (List.mem_of_getElem? (i := 113) rfl)
  have w_114 := hw _ (List.mem_of_getElem? (i := 114) rfl)
  have w_118 := hw _ (List.mem_of_getElem? (i := 118) rfl)
  have w_6 := hw _ (List.mem_of_getElem? (i := 6) rfl)
  have w_75 := hw _ (List.mem_of_getElem? (i := 75) rfl)
  have w_77 := hw _ (List.mem_of_getElem? (i := 77) rfl)
  have w_78 := hw _ (List.mem_of_getElem? (i := 78) rfl)
  have oz := OLD.1
  have lt_fa : fa < h0.size := P5.lt
  have lt_fp : fp < h0.size := P6.lt
  have lt_q1 : q1 < h0.size := P1.lt
  have lt_ss : ss < h0.size := P9.lt
  have lt_wi : wi < h0.size := P7.lt
  refine own_go (B := s₁.setTop (mkF m 0 #[.val (.ref q1), .unset, .unset] [])) pre0 ?_
  show ∃ t o, Steps p.tables e below (s₁.setTop (mkF m 0 #[.val (.ref q1), .unset, .unset] [])) t ∧ _
  refine own_go (fun _ => XS.aloadN X0.here hx rfl (hb hby d16_0) rfl rfl) ?_
  show ∃ t o, Steps p.tables e below (s₁.setTop (mkF m 1 #[.val (.ref q1), .unset, .unset] [(.ref q1)])) t ∧ _
  obtain ⟨cq13, q13, q13'⟩ := P1.cell
  obtain ⟨_, _, ⟨T13, L13, k13, n13⟩, -, X13, ⟨Lc13, hQ13, l13, y13, z13⟩, st13⟩ := X0.privateBack hx (y := (⟨"com/example/holdback/holdback/sim/EventQueue", "requireEvent", "()V"⟩ : MethodName)) hown (mvT hZ (hw _ (List.mem_of_getElem? (i := 111) rfl))) (mvT hZ w_112) (mvT hZ (own_selp (y := (⟨"com/example/holdback/holdback/sim/EventQueue", "requireEvent", "()V"⟩ : MethodName)) w_75 rfl w_113 w_112 (by decide))) (Cond.privateMethod_at (mvP hZ w_113 (args := #[]))) (mvT hZ w_114) (by decide) (backOf (W := 0) (rmReq l Z a0 hw [] q1 sz h0 n0 Z0 P11 OLD hz) hZ w_114 w_6 (by decide) (by decide)) (g := (mkF m 1 #[.val (.ref q1), .unset, .unset] [(.ref q1)])) rfl (by rw [hml]; rfl) (Steps.refl _) (a := q1) (by rw [e0]; exact q13) q13' (argsL := []) (rest := []) (lenOf pd__28_29V rfl) rfl (by show 2 * 0 + _ ≤ _; exact Nat.le_of_eq rfl) (hb hby d16_1) (fun _ _ => ⟨rfl, e0, (by decide : 0 + 0 ≤ _), (by decide : 0 + 0 ≤ _)⟩)
  dsimp only [Pt.U, Pt.locs, Pt.cells, Pt.slots] at X13 l13 y13 z13 st13 hQ13
  rw [l13, y13, z13] at X13
  obtain ⟨rfl, Nq13, e13⟩ := hQ13
  have N13 := Fr.app N0 Nq13
  refine own_goT st13 ?_
  refine own_go (fun _ => XS.aloadN X13.here hx rfl (hb hby d16_4) rfl rfl) ?_
  obtain ⟨T14, X14, e14, st14⟩ := getF X13 hx hZ hown (host := "") (Or.inl (hw _ (List.mem_of_getElem? (i := 36) rfl))) Via.refl e13 P4 (g := (mkF m 5 #[.val (.ref q1), .unset, .unset] [(.ref q1)])) rfl rfl (hb hby d16_5)
  refine own_go st14 ?_
  refine own_go (fun _ => XS.iconst X14.here hx rfl (hb hby d16_8)) ?_
  have ib16 : ¬ (1 : Int32) < 0 ∧ (1 : Int32) < z2 := own_one HN
  obtain ⟨ii17, hd17, bb17⟩ := GW.at ib16
  obtain ⟨cl15, Ar15, q15, S15, N15, H15, G15⟩ := id P7
  have hin15 : ¬ ((1 : Int32) < 0 ∨ cl15.slots.size ≤ ((1 : Int32)).toNatClampNeg) := inb_of S15 ib16
  have hat15 : cl15.slots[((1 : Int32)).toNatClampNeg]? = some (.int ii17) := Has.at H15 hin15 hd17
  refine own_go (fun _ => X14.iaload hx (j := (1 : Int32)) (v := (.int ii17)) (by rw [e14]; exact Ar15.1) (State.isArrayOf_alike hZ.alike Ar15.2.1) Ar15.2.2 hin15 hat15 (g := (mkF m 9 #[.val (.ref q1), .unset, .unset] [(.int (1 : Int32)), (.ref wi)])) rfl rfl (hb hby d16_9) _) ?_
  refine own_go (fun _ => XS.istoreN X14.here hx rfl (hb hby d16_10) rfl (l' := #[.val (.ref q1), .val (.int ii17), .unset]) rfl) ?_
  refine own_go (fun _ => XS.aloadN X14.here hx rfl (hb hby d16_11) rfl rfl) ?_
  obtain ⟨T18, X18, e18, st18⟩ := getF X14 hx hZ hown (host := "") (Or.inl (hw _ (List.mem_of_getElem? (i := 27) rfl))) Via.refl e14 P8 (g := (mkF m 12 #[.val (.ref q1), .val (.int ii17), .unset] [(.ref q1)])) rfl rfl (hb hby d16_12)
  refine own_go st18 ?_
  show ∃ t o, Steps p.tables e below (T18.setTop (mkF m 15 #[.val (.ref q1), .val (.int ii17), .unset] [(.ref ss)])) t ∧ _
  refine own_go (fun _ => XS.iloadN X18.here hx rfl (hb hby d16_15) rfl) ?_
  have ib20 : ¬ ii17 < 0 ∧ ii17 < zN := bb17
  obtain ⟨aa21, ea21⟩ : ∃ z, z = ff (ii17).toNatClampNeg := ⟨_, rfl⟩
  obtain ⟨hi21, eh21⟩ : ∃ z, z = ff ((ii17).toNatClampNeg + 1) := ⟨_, rfl⟩
  have hr21 := HR ii17 ib20.1 ib20.2
  have os21 := P10 (ii17).toNatClampNeg (own_lti ib20.1 ib20.2)
  have om21 := own_SS.mono P10 0 (ii17).toNatClampNeg (Nat.zero_le _) (Nat.le_of_lt (own_lti ib20.1 ib20.2))
  rw [← ea21] at hr21 os21 om21
  rw [← eh21] at os21
  obtain ⟨am_21, ap_21, ac_21, km_21, kp_21, kc_21, lm_21, lp_21, lc_21, f1_21, z1_21, x1_21, Sl1_21, Sl2_21, Sl3_21, Sl4_21, SE_21, SF1_21, SF2_21, SF3_21, SF4_21, SF5_21, SF6_21, SA1_21, SA2_21, SA3_21, SG1_21, SG2_21, SG3_21, SB1_21, SB2_21, SB3_21⟩ := os21
  obtain ⟨cl19, Ar19, q19, S19, N19, H19, G19⟩ := id P9
  have hin19 : ¬ (ii17 < 0 ∨ cl19.slots.size ≤ (ii17).toNatClampNeg) := inb_of S19 ib20
  have hat19 : cl19.slots[(ii17).toNatClampNeg]? = some (.ref aa21) := Has.at H19 hin19 hr21
  refine own_go (fun _ => X18.aaload hx (j := ii17) (v := (.ref aa21)) (by rw [e18]; exact Ar19.1) (State.isArrayOf_alike hZ.alike Ar19.2.1) rfl Ar19.2.2 hin19 hat19 (g := (mkF m 16 #[.val (.ref q1), .val (.int ii17), .unset] [(.int ii17), (.ref ss)])) rfl rfl (hb hby d16_16) _) ?_
  show ∃ t o, Steps p.tables e below (T18.setTop (mkF m 17 #[.val (.ref q1), .val (.int ii17), .unset] [(.ref aa21)])) t ∧ _
  obtain ⟨cq22, kq22, q22a, q22b, q22c⟩ := isOf hZ e18 SE_21
  obtain ⟨_, _, ⟨T22, L22, k22, n22⟩, -, X22, ⟨Lc22, hQ22, l22, y22, z22⟩, st22⟩ := X18.virtualBack hx (y := (⟨"com/example/holdback/holdback/sim/EventQueue$Stream", "removeFirst", "()Ljava/lang/Runnable;"⟩ : MethodName)) (z := (⟨"com/example/holdback/holdback/sim/EventQueue$Stream", "removeFirst", "()Ljava/lang/Runnable;"⟩ : MethodName)) hown (mvT hZ (hw _ (List.mem_of_getElem? (i := 115) rfl))) (mvT hZ (hw _ (List.mem_of_getElem? (i := 116) rfl))) (notFace_of_selects (args := #[]) (mvT hZ w_118)) (mvT hZ w_118) (mvT hZ (hw _ (List.mem_of_getElem? (i := 117) rfl))) (by decide) (backOf (W := 0) (rmSR l Z a0 hw [] aa21 am_21 ap_21 ac_21 km_21 kp_21 kc_21 lm_21 lp_21 lc_21 f1_21 z1_21 (FP.i2d x1_21) h0 n0 Z0 SE_21 SF1_21 SF2_21 SF3_21 SF4_21 SF5_21 SF6_21 SA1_21 SA2_21 SA3_21 OLD Sl1_21 Sl2_21 Sl3_21 (by omega) SG1_21 SG2_21 SG3_21 SB1_21) hZ (hw _ (List.mem_of_getElem? (i := 119) rfl)) (hw _ (List.mem_of_getElem? (i := 39) rfl)) (by decide) (by decide)) q22a q22c (g := (mkF m 17 #[.val (.ref q1), .val (.int ii17), .unset] [(.ref aa21)])) rfl (by rw [hml]; rfl) (Steps.refl _) (argsL := []) (rest := []) (lenOf pd__28_29Ljava_2flang_2fRunnable_3b rfl) rfl (by show 2 * 0 + _ ≤ _; exact Nat.le_of_eq rfl) (hb hby d16_17) (fun _ _ => ⟨rfl, e18, (by decide : 0 + 0 ≤ _), (by decide : 0 + 0 ≤ _)⟩)
  dsimp only [Pt.U, Pt.locs, Pt.cells, Pt.slots] at X22 l22 y22 z22 st22 hQ22
  rw [l22, y22, z22] at X22
  obtain ⟨rfl, Nq22, Kp22, G22_0, G22_1, G22_2, G22_3, G22_4, G22_5, G22_6, G22_7, H22_0⟩ := hQ22
  have N22 := Fr.app N13 Nq22
  refine own_goT st22 ?_
  have le_22 : h0.size ≤ T22.heap.size := Kp22.1
  have ge23 : n0 ≤ aa21 := by omega
  have ge24 : n0 ≤ ac_21 := by omega
  have K22 : Keep h0 T22.heap (own_up n0 h0) := Keep.trans (Keep.refl h0 (own_up n0 h0)) Kp22 (allS (own_up_or ge23) (allS (own_up_or ge24) all0))
  have ne26 : am_21 ≠ ac_21 := own_ne (by omega)
  have ne27 : am_21 ≠ aa21 := own_ne (by omega)
  have F28 := (Arv.keep SA1_21 Kp22 (ninS ne27 (ninS ne26 nin0)))
  have ne29 : ap_21 ≠ ac_21 := own_ne (by omega)
  have ne30 : ap_21 ≠ aa21 := own_ne (by omega)
  have F31 := (Arv.keep SA2_21 Kp22 (ninS ne30 (ninS ne29 nin0)))
  have ns25 : own_S Z T22.heap aa21 hi21 TT (KK + 1) := ⟨am_21, ap_21, ac_21, km_21, kp_21, kc_21, lm_21, lp_21, (lc_21.set (f1_21).toNatClampNeg .null), ((f1_21 + (1 : Int32)) &&& (7 : Int32)), (z1_21 - (1 : Int32)), x1_21, Sl1_21, Sl2_21, Sl3_21, Sl4_21, G22_0, G22_1, G22_2, G22_3, G22_4, G22_5, G22_6, F28, F31, G22_7, SG1_21, SG2_21, H22_0, (own_a7 _), (by have := c_isub z1_21 1; have e1 : (1 : Int32).toInt = 1 := rfl; have := rng32 (z1_21 - 1); have := SB2_21; omega), SB3_21⟩
  rw [ea21, eh21] at ns25
  have nS25 : own_SS Z T22.heap zN.toNatClampNeg ff TT (KK + 1) := own_SS.upd P10 (own_lti ib20.1 ib20.2) Kp22 (allS (P := fun y : Nat => ff (ii17).toNatClampNeg ≤ y ∧ y < ff ((ii17).toNatClampNeg + 1)) (by omega) (allS (P := fun y : Nat => ff (ii17).toNatClampNeg ≤ y ∧ y < ff ((ii17).toNatClampNeg + 1)) (by omega) all0)) ns25 (Int.le_refl _) (by omega)
  refine own_go (fun _ => XS.astoreN X22.here hx rfl (hb hby d16_20) rfl rfl (l' := #[.val (.ref q1), .val (.int ii17), .val .null]) rfl) ?_
  refine own_go (fun _ => XS.aloadN X22.here hx rfl (hb hby d16_21) rfl rfl) ?_
  refine own_go (fun _ => XS.dup X22.here hx rfl (hb hby d16_22) rfl rfl) ?_
  have ne32 : q1 ≠ ac_21 := own_ne (by omega)
  have ne33 : q1 ≠ aa21 := own_ne (by omega)
  have F34 := (Fld.keep P11 Kp22 (ninS ne33 (ninS ne32 nin0)))
  obtain ⟨T35, X35, e35, st35⟩ := getF X22 hx hZ hown (host := "") (Or.inl w_77) Via.refl rfl F34 (g := (mkF m 23 #[.val (.ref q1), .val (.int ii17), .val .null] [(.ref q1), (.ref q1)])) rfl rfl (hb hby d16_23)
  refine own_go st35 ?_
  refine own_go (fun _ => XS.iconst X35.here hx rfl (hb hby d16_26)) ?_
  refine own_go (fun _ => XS.isub X35.here hx rfl (hb hby d16_27) rfl) ?_
  have F36 := (Exa.keep P1 Kp22)
  obtain ⟨T37, h37, X37, e37, W37, st37⟩ := putF X35 hx hZ hown (host := "") (Or.inl w_77) Via.refl e35 F34 F36 (Or.inl w_78) (hw _ (List.mem_of_getElem? (i := 5) rfl)) (ty := .int) (by decide) rfl rfl (g := (mkF m 28 #[.val (.ref q1), .val (.int ii17), .val .null] [(.int (sz - (1 : Int32))), (.ref q1)])) rfl rfl (hb hby d16_28)
  refine own_go st37 ?_
  have le_37 : T22.heap.size ≤ h37.size := Nat.le_of_eq W37.size.symm
  have K37 : Keep h0 h37 (own_up n0 h0) := Keep.wr K22 W37 (own_up_or gq)
  have N37 := Fr.snoc X37 N22 gq
  have Fw37 := Fld.same W37 F34
  show ∃ t o, Steps p.tables e below (T37.setTop (mkF m 31 #[.val (.ref q1), .val (.int ii17), .val .null] [])) t ∧ _
  refine own_go (fun _ => XS.aloadN X37.here hx rfl (hb hby d16_31) rfl rfl) ?_
  refine own_go (fun _ => XS.iloadN X37.here hx rfl (hb hby d16_32) rfl) ?_
  refine own_go (fun _ => XS.iconst X37.here hx rfl (hb hby d16_33)) ?_
  show ∃ t o, Steps p.tables e below (T37.setTop (mkF m 34 #[.val (.ref q1), .val (.int ii17), .val .null] [(.int (0 : Int32)), (.int ii17), (.ref q1)])) t ∧ _
  have F38 := (Exa.wr W37 F36)
  have F39 := (Fld.other W37 (Fld.keep P2 Kp22 (ninS ne33 (ninS ne32 nin0))) (Or.inr (slot_ne (a0 := a0) (Or.inr (hw _ (List.mem_of_getElem? (i := 31) rfl))) (Or.inl w_78) (by decide) (t := (.array .double)) (t' := .int) (by decide) (by decide))))
  have F40 := (Fld.other W37 (Fld.keep P3 Kp22 (ninS ne33 (ninS ne32 nin0))) (Or.inr (slot_ne (a0 := a0) (Or.inr (hw _ (List.mem_of_getElem? (i := 34) rfl))) (Or.inl w_78) (by decide) (t := (.array .long)) (t' := .int) (by decide) (by decide))))
  have F41 := (Fld.other W37 (Fld.keep P4 Kp22 (ninS ne33 (ninS ne32 nin0))) (Or.inr (slot_ne (a0 := a0) (Or.inr (hw _ (List.mem_of_getElem? (i := 37) rfl))) (Or.inl w_78) (by decide) (t := (.array .int)) (t' := .int) (by decide) (by decide))))
  have ne42 : fa ≠ ac_21 := own_ne (by omega)
  have ne43 : fa ≠ aa21 := own_ne (by omega)
  have ne44 : fa ≠ q1 := own_ne (by omega)
  have F45 := (Arv.other (Arv.keep P5 Kp22 (ninS ne43 (ninS ne42 nin0))) W37 ne44)
  have ne46 : fp ≠ ac_21 := own_ne (by omega)
  have ne47 : fp ≠ aa21 := own_ne (by omega)
  have ne48 : fp ≠ q1 := own_ne (by omega)
  have F49 := (Arv.other (Arv.keep P6 Kp22 (ninS ne47 (ninS ne46 nin0))) W37 ne48)
  have ne50 : wi ≠ ac_21 := own_ne (by omega)
  have ne51 : wi ≠ aa21 := own_ne (by omega)
  have ne52 : wi ≠ q1 := own_ne (by omega)
  have F53 := (Arv.other (Arv.keep P7 Kp22 (ninS ne51 (ninS ne50 nin0))) W37 ne52)
  have F54 := (Fld.other W37 (Fld.keep P8 Kp22 (ninS ne33 (ninS ne32 nin0))) (Or.inr (slot_ne (a0 := a0) (Or.inr (hw _ (List.mem_of_getElem? (i := 28) rfl))) (Or.inl w_78) (by decide) (t := (.array (.object "com/example/holdback/holdback/sim/EventQueue$Stream"))) (t' := .int) (by decide) (by decide))))
  have ne55 : ss ≠ ac_21 := own_ne (by omega)
  have ne56 : ss ≠ aa21 := own_ne (by omega)
  have ne57 : ss ≠ q1 := own_ne (by omega)
  have F58 := (Arv.other (Arv.keep P9 Kp22 (ninS ne56 (ninS ne55 nin0))) W37 ne57)
  have F59 := (own_SS.wr nS25 W37 (show (q1 : Nat) < (ff 0) by omega))
  have F60 := (Old.wr (Old.keep OLD Kp22 (allS ge23 (allS ge24 all0))) W37 gq)
  have zl61 : n0 ≤ h37.size := by omega
  obtain ⟨cq62, q62, q62'⟩ := F38.cell
  obtain ⟨_, _, ⟨T62, L62, k62, n62⟩, -, X62, ⟨Lc62, hQ62, l62, y62, z62⟩, st62⟩ := X37.privateBack hx (y := (⟨"com/example/holdback/holdback/sim/EventQueue", "firstChanged", "(IZ)V"⟩ : MethodName)) hown (mvT hZ (hw _ (List.mem_of_getElem? (i := 99) rfl))) (mvT hZ w_100) (mvT hZ (own_selp (y := (⟨"com/example/holdback/holdback/sim/EventQueue", "firstChanged", "(IZ)V"⟩ : MethodName)) w_75 rfl w_101 w_100 (by decide))) (Cond.privateMethod_at (mvP hZ w_101 (args := #[]))) (mvT hZ w_102) (by decide) (backOf (W := 0) (rmFC0 l Z a0 hw [] q1 fa fp wi kf kp kw ds ls wl zN z2 ss ks vs ff TT (KK + 1) ii17 h37 n0 zl61 F38 F39 F40 F41 F45 F49 F53 F54 F58 F59 F60 GD GJ GW HN HR o1 o2 o3 o4 o5 gq (ib20 : ¬ ii17 < 0 ∧ ii17 < zN)) hZ w_102 w_6 (by decide) (by decide)) (g := (mkF m 34 #[.val (.ref q1), .val (.int ii17), .val .null] [(.int (0 : Int32)), (.int ii17), (.ref q1)])) rfl (by rw [hml]; rfl) (Steps.refl _) (a := q1) (by rw [e37]; exact q62) q62' (argsL := [(.int ii17), (.int (0 : Int32))]) (rest := []) (lenOf pd__28IZ_29V rfl) rfl (by show 2 * 0 + _ ≤ _; exact Nat.le_of_eq rfl) (hb hby d16_34) (fun _ _ => ⟨rfl, e37, (by decide : 0 + 0 ≤ _), (by decide : 0 + 0 ≤ _)⟩)
  dsimp only [Pt.U, Pt.locs, Pt.cells, Pt.slots] at X62 l62 y62 z62 st62 hQ62
  rw [l62, y62, z62] at X62
  obtain ⟨ds2_62, ls2_62, wl2_62, rfl, Nq62, Kp62, G62_0, G62_1, G62_2, H62_0, H62_1, H62_2⟩ := hQ62
  have N62 := Fr.app N37 Nq62
  refine own_goT st62 ?_
  have le_62 : h37.size ≤ T62.heap.size := Kp62.1
  have ge63 : n0 ≤ fa := by omega
  have ge64 : n0 ≤ fp := by omega
  have ge65 : n0 ≤ wi := by omega
  have K62 : Keep h0 T62.heap (own_up n0 h0) := Keep.trans K37 Kp62 (allS (own_up_or ge63) (allS (own_up_or ge64) (allS (own_up_or ge65) all0)))
  refine own_go (fun _ => XS.aloadN X62.here hx rfl (hb hby d16_37) rfl rfl) ?_
  show ∃ t o, Steps p.tables e below (T62.setTop (mkF m 38 #[.val (.ref q1), .val (.int ii17), .val .null] [.null])) t ∧ _
  have F66 := (Exa.keep F38 Kp62)
  have ne67 : q1 ≠ wi := own_ne (by omega)
  have ne68 : q1 ≠ fp := own_ne (by omega)
  have ne69 : q1 ≠ fa := own_ne (by omega)
  have F70 := (Fld.keep F39 Kp62 (ninS ne69 (ninS ne68 (ninS ne67 nin0))))
  have F71 := (Fld.keep F40 Kp62 (ninS ne69 (ninS ne68 (ninS ne67 nin0))))
  have F72 := (Fld.keep F41 Kp62 (ninS ne69 (ninS ne68 (ninS ne67 nin0))))
  have F73 := (Fld.keep F54 Kp62 (ninS ne69 (ninS ne68 (ninS ne67 nin0))))
  have ne74 : ss ≠ wi := own_ne (by omega)
  have ne75 : ss ≠ fp := own_ne (by omega)
  have ne76 : ss ≠ fa := own_ne (by omega)
  have F77 := (Arv.keep F58 Kp62 (ninS ne76 (ninS ne75 (ninS ne74 nin0))))
  have F78 := (own_SS.keep F59 Kp62 (allS (show (fa : Nat) < (ff 0) by omega) (allS (show (fp : Nat) < (ff 0) by omega) (allS (show (wi : Nat) < (ff 0) by omega) all0))))
  have F79 := (Fld.keep Fw37 Kp62 (ninS ne69 (ninS ne68 (ninS ne67 nin0))))
  have F80 := (Fld.keep (Fld.other W37 (Fld.keep P12 Kp22 (ninS ne33 (ninS ne32 nin0))) (Or.inr (slot_ne (a0 := a0) (Or.inl (hw _ (List.mem_of_getElem? (i := 87) rfl))) (Or.inl w_78) (by decide) (t := .long) (t' := .int) (by decide) (by decide)))) Kp62 (ninS ne69 (ninS ne68 (ninS ne67 nin0))))
  obtain ⟨fs, hr, hrun, hended, hW, hsame⟩ := X62.leave (v := some .null) (fun h => by rw [Bd.returns] at h; cases h)
  refine ⟨_, _, ?_, hrun, hended, _, _, rfl, ?_, ⟨_, rfl⟩, hW, hsame.mono (by decide) (by decide)⟩
  · jvm_step X62.here [X62.here.top, hx, (hb hby d16_38), X62.method', Bd.returns, Value.isRef, FieldType.isReference]
    first | (intro acts; rw [hr _ acts rfl rfl rfl]) | rw [hr _ _ rfl rfl rfl]
    exact Steps.refl _
  · show Q_rmPoll Z _ _ _ _ _ _ _ _ _ _ _ _ _ _ _ _ _ _ _ _ h0 n0 _ T62.heap _
    exact ⟨ds2_62, ls2_62, wl2_62, rfl, N62, K62, F66, F70, F71, F72, G62_0, G62_1, G62_2, F73, F77, F78, F79, F80, H62_0, H62_1, H62_2⟩
theorem ef_rmE0 (m : MethodId) (x0 : Nat) : entryFrame m #[(.ref x0)] 1 = mkF m 0 #[.val (.ref x0)] [] := by first | (simp [entryFrame, mkF, argsToLocals, Value.category]; done) | rfl
theorem d12_0 : decode prog_164_method_4_code 0 = .ok (.aload_n 0, 1) := by decide +kernel
theorem d12_1 : decode prog_164_method_4_code 1 = .ok (.getfield 73, 3) := by decide +kernel
theorem d12_4 : decode prog_164_method_4_code 4 = .ok (.ifCond .ne 7, 3) := by decide +kernel
theorem d12_7 : decode prog_164_method_4_code 7 = .ok (.iconst 1, 1) := by decide +kernel
theorem d12_8 : decode prog_164_method_4_code 8 = .ok (.goto 4, 3) := by decide +kernel
theorem d12_12 : decode prog_164_method_4_code 12 = .ok (.ireturn, 1) := by decide +kernel
def Q_rmE0 (Z : State) (q1 : Nat) (h0 : Heap) (n0 : Nat) (v : Option Value) (h : Heap) (L : List Loc) : Prop := v = some (.int (1 : Int32)) ∧ Fr n0 L ∧ h = h0
set_option maxRecDepth 65536 in
set_option maxHeartbeats 40000000 in
theorem rmE0 (l : Launch) (Z : State) (a0 : Array Value) (hw : ∀ d ∈ tables_1, d.before a0 Z = true) (ws : List Jvm.Cond) (q1 : Nat) (h0 : Heap) (n0 : Nat) (Z0 : n0 ≤ h0.size) (P1 : Fld Z h0 q1 "com/example/holdback/holdback/sim/EventQueue" "size" "I" (.int (0 : Int32))) (OLD : Old Z n0 h0) :
    MetFree l (⟨"com/example/holdback/holdback/sim/EventQueue", "isEmpty", "()Z"⟩ : MethodName) (head1 (Jvm.Cond.code (⟨"com/example/holdback/holdback/sim/EventQueue", "isEmpty", "()Z"⟩ : MethodName) prog_164_method_4_code 1 (some .boolean) :: ws) ({ frames := 0, cells := 0, slots := 0, locals := 0 } : Room)) (fun a U => a = #[(.ref q1)] ∧ Z.Warmed39 U.vm ∧ U.heap = h0) (fun _ _ _ _ _ => True) (fun _ U o U' => ∃ v L, o = .returned v ∧ Q_rmE0 Z q1 h0 n0 v U'.heap L ∧ FrameEnd U o U' L ({ frames := 0, cells := 0, slots := 0, locals := 0 } : Room).cells ({ frames := 0, cells := 0, slots := 0, locals := 0 } : Room).slots) := by
  refine MetFree.of_bodySF (plainFor_of_name pn_com_example_holdback_holdback_sim_EventQueue) hisR ?_
  intro p e s m args below meth c s₁ Bd hml0 hP hK
  obtain ⟨rfl, hZ, hh⟩ := hP
  have hx := Bd.exec
  have hby := Bd.bytes
  have hml : c.maxLocals = 1 := hml0
  have hown : s.vm.findClass "com/example/holdback/holdback/sim/EventQueue" = some m.cls := findClass_of_methodNamed Bd.named
  have hnm := (name_of_methodNamed Bd.named Bd.method).1
  have X0 : Stand p l e ({ frames := 0, cells := 0, slots := 0, locals := 0 } : Room) s m #[(.ref q1)] below meth c s₁ [] 0 0 := Stand.of_body Bd
  have e0 : s₁.heap = h0 := by rw [← hh, Bd.state]; rfl
  have N0 := Fr.nil n0
  have pre0 : ∀ t, Steps p.tables e below (s₁.setTop (mkF m 0 #[.val (.ref q1)] [])) t → Steps p.tables e below (s₁.setTop (entryFrame m #[(.ref q1)] 1)) t := fun t k => castTop (ef_rmE0 m q1) k
  have oz := OLD.1
  have lt_q1 : q1 < h0.size := P1.lt
  refine own_go (B := s₁.setTop (mkF m 0 #[.val (.ref q1)] [])) pre0 ?_
  show ∃ t o, Steps p.tables e below (s₁.setTop (mkF m 0 #[.val (.ref q1)] [])) t ∧ _
  refine own_go (fun _ => XS.aloadN X0.here hx rfl (hb hby d12_0) rfl rfl) ?_
  obtain ⟨T2, X2, e2, st2⟩ := getF X0 hx hZ hown (host := "") (Or.inl (hw _ (List.mem_of_getElem? (i := 77) rfl))) Via.refl e0 P1 (g := (mkF m 1 #[.val (.ref q1)] [(.ref q1)])) rfl rfl (hb hby d12_1)
  refine own_go st2 ?_
  show ∃ t o, Steps p.tables e below (T2.setTop (mkF m 4 #[.val (.ref q1)] [(.int (0 : Int32))])) t ∧ _
  refine own_go (fun _ => XS.ifNo X2.here hx rfl (hb hby d12_4) rfl ((if0 _ _).trans (teq (by decide : (0 : Int32) = (0 : Int32))).2)) ?_
  refine own_go (fun _ => XS.iconst X2.here hx rfl (hb hby d12_7)) ?_
  refine own_go (fun _ => XS.goto X2.here hx rfl (pc0 := 8) (pc' := 12) rfl (hb hby d12_8) (by decide) (by decide)) ?_
  show ∃ t o, Steps p.tables e below (T2.setTop (mkF m 12 #[.val (.ref q1)] [(.int (1 : Int32))])) t ∧ _
  obtain ⟨fs, hr, hrun, hended, hW, hsame⟩ := X2.leave (v := some (.int (1 : Int32))) (fun h => by rw [Bd.returns] at h; cases h)
  refine ⟨_, _, ?_, hrun, hended, _, _, rfl, ?_, ⟨_, rfl⟩, hW, hsame.mono (by decide) (by decide)⟩
  · exact retN X2 hx (t := .boolean) Bd.returns (by simp) (hb hby d12_12) hr
  · show Q_rmE0 Z _ h0 n0 _ T2.heap _
    rw [e2]
    exact ⟨rfl, N0, rfl⟩
theorem ef_rmE1 (m : MethodId) (x0 : Nat) : entryFrame m #[(.ref x0)] 1 = mkF m 0 #[.val (.ref x0)] [] := by first | (simp [entryFrame, mkF, argsToLocals, Value.category]; done) | rfl
theorem d12_11 : decode prog_164_method_4_code 11 = .ok (.iconst 0, 1) := by decide +kernel
def Q_rmE1 (Z : State) (q1 : Nat) (sz : Int32) (h0 : Heap) (n0 : Nat) (v : Option Value) (h : Heap) (L : List Loc) : Prop := v = some (.int (0 : Int32)) ∧ Fr n0 L ∧ h = h0
set_option maxRecDepth 65536 in
set_option maxHeartbeats 40000000 in
theorem rmE1 (l : Launch) (Z : State) (a0 : Array Value) (hw : ∀ d ∈ tables_1, d.before a0 Z = true) (ws : List Jvm.Cond) (q1 : Nat) (sz : Int32) (h0 : Heap) (n0 : Nat) (Z0 : n0 ≤ h0.size) (P1 : Fld Z h0 q1 "com/example/holdback/holdback/sim/EventQueue" "size" "I" (.int sz)) (OLD : Old Z n0 h0) (hz : ¬ (sz = (0 : Int32))) :
    MetFree l (⟨"com/example/holdback/holdback/sim/EventQueue", "isEmpty", "()Z"⟩ : MethodName) (head1 (Jvm.Cond.code (⟨"com/example/holdback/holdback/sim/EventQueue", "isEmpty", "()Z"⟩ : MethodName) prog_164_method_4_code 1 (some .boolean) :: ws) ({ frames := 0, cells := 0, slots := 0, locals := 0 } : Room)) (fun a U => a = #[(.ref q1)] ∧ Z.Warmed39 U.vm ∧ U.heap = h0) (fun _ _ _ _ _ => True) (fun _ U o U' => ∃ v L, o = .returned v ∧ Q_rmE1 Z q1 sz h0 n0 v U'.heap L ∧ FrameEnd U o U' L ({ frames := 0, cells := 0, slots := 0, locals := 0 } : Room).cells ({ frames := 0, cells := 0, slots := 0, locals := 0 } : Room).slots) := by
  refine MetFree.of_bodySF (plainFor_of_name pn_com_example_holdback_holdback_sim_EventQueue) hisR ?_
  intro p e s m args below meth c s₁ Bd hml0 hP hK
  obtain ⟨rfl, hZ, hh⟩ := hP
  have hx := Bd.exec
  have hby := Bd.bytes
  have hml : c.maxLocals = 1 := hml0
  have hown : s.vm.findClass "com/example/holdback/holdback/sim/EventQueue" = some m.cls := findClass_of_methodNamed Bd.named
  have hnm := (name_of_methodNamed Bd.named Bd.method).1
  have X0 : Stand p l e ({ frames := 0, cells := 0, slots := 0, locals := 0 } : Room) s m #[(.ref q1)] below meth c s₁ [] 0 0 := Stand.of_body Bd
  have e0 : s₁.heap = h0 := by rw [← hh, Bd.state]; rfl
  have N0 := Fr.nil n0
  have pre0 : ∀ t, Steps p.tables e below (s₁.setTop (mkF m 0 #[.val (.ref q1)] [])) t → Steps p.tables e below (s₁.setTop (entryFrame m #[(.ref q1)] 1)) t := fun t k => castTop (ef_rmE1 m q1) k
  have oz := OLD.1
  have lt_q1 : q1 < h0.size := P1.lt
  refine own_go (B := s₁.setTop (mkF m 0 #[.val (.ref q1)] [])) pre0 ?_
  show ∃ t o, Steps p.tables e below (s₁.setTop (mkF m 0 #[.val (.ref q1)] [])) t ∧ _
  refine own_go (fun _ => XS.aloadN X0.here hx rfl (hb hby d12_0) rfl rfl) ?_
  obtain ⟨T2, X2, e2, st2⟩ := getF X0 hx hZ hown (host := "") (Or.inl (hw _ (List.mem_of_getElem? (i := 77) rfl))) Via.refl e0 P1 (g := (mkF m 1 #[.val (.ref q1)] [(.ref q1)])) rfl rfl (hb hby d12_1)
  refine own_go st2 ?_
  show ∃ t o, Steps p.tables e below (T2.setTop (mkF m 4 #[.val (.ref q1)] [(.int sz)])) t ∧ _
  refine own_go (fun _ => XS.ifYes X2.here hx rfl (pc0 := 4) (pc' := 11) rfl (hb hby d12_4) rfl ((if0 _ _).trans (feq hz).2) (by decide) (by decide)) ?_
  refine own_go (fun _ => XS.iconst X2.here hx rfl (hb hby d12_11)) ?_
  show ∃ t o, Steps p.tables e below (T2.setTop (mkF m 12 #[.val (.ref q1)] [(.int (0 : Int32))])) t ∧ _
  obtain ⟨fs, hr, hrun, hended, hW, hsame⟩ := X2.leave (v := some (.int (0 : Int32))) (fun h => by rw [Bd.returns] at h; cases h)
  refine ⟨_, _, ?_, hrun, hended, _, _, rfl, ?_, ⟨_, rfl⟩, hW, hsame.mono (by decide) (by decide)⟩
  · exact retN X2 hx (t := .boolean) Bd.returns (by simp) (hb hby d12_12) hr
  · show Q_rmE1 Z _ _ h0 n0 _ T2.heap _
    rw [e2]
    exact ⟨rfl, N0, rfl⟩
def own_17 (x : Int32) : Prop := x = 1 ∨ x = 2 ∨ x = 3 ∨ x = 4 ∨ x = 5 ∨ x = 6 ∨ x = 7
def own_18 (x : Int32) : Prop := x = 1 ∨ x = 2 ∨ x = 3 ∨ x = 4 ∨ x = 5 ∨ x = 6 ∨ x = 7 ∨ x = 8
def own_nl (x : Int32) : Int32 := if x = 1 then 31 else if x = 2 then 30 else if x = 3 then 30 else 29
def own_hb (x : Int32) : Int32 := if x = 1 then 1 else if x = 2 then 2 else if x = 3 then 2 else 4
theorem own_17z {z1 : Int32} (h : own_18 z1) : own_17 (if (1 : Int32) < (z1 - (1 : Int32)) then (z1 - (1 : Int32)) else (1 : Int32)) := by
  unfold own_17; rcases h with rfl | rfl | rfl | rfl | rfl | rfl | rfl | rfl <;> decide
theorem own_lv {z1 : Int32} (h : own_18 z1) : ((own_hb (if (1 : Int32) < (z1 - (1 : Int32)) then (z1 - (1 : Int32)) else (1 : Int32)) <<< ((1 : Int32) &&& 31)) = (2 : Int32) ∧ z1.toInt ≤ (2 : Int32).toInt) ∨ ((own_hb (if (1 : Int32) < (z1 - (1 : Int32)) then (z1 - (1 : Int32)) else (1 : Int32)) <<< ((1 : Int32) &&& 31)) = (4 : Int32) ∧ z1.toInt ≤ (4 : Int32).toInt) ∨ ((own_hb (if (1 : Int32) < (z1 - (1 : Int32)) then (z1 - (1 : Int32)) else (1 : Int32)) <<< ((1 : Int32) &&& 31)) = (8 : Int32) ∧ z1.toInt ≤ (8 : Int32).toInt) := by
  rcases h with rfl | rfl | rfl | rfl | rfl | rfl | rfl | rfl <;> decide
def own_ff (L : List Nat) (j : Nat) : Nat := L.getD j 0
def own_chain (Z : State) (h : Heap) : List Nat → Prop
  | a :: b :: l => own_S Z h a b 0 0 ∧ own_chain Z h (b :: l)
  | _ => True
theorem own_chain.at {Z : State} {h : Heap} : ∀ (L : List Nat), own_chain Z h L → ∀ j, j + 1 < L.length → own_S Z h (own_ff L j) (own_ff L (j + 1)) 0 0
  | [], _, j, hj => absurd hj (by simp)
  | [_], _, j, hj => absurd hj (by simp)
  | a :: b :: l, H, 0, _ => H.1
  | a :: b :: l, H, j + 1, hj => own_chain.at (b :: l) H.2 j (by simpa using hj)
theorem own_R_of {z : Int32} (L : List Nat) (hi : Nat) (hl : L.length = z.toNatClampNeg) : own_R z (own_ff (L ++ [hi])) (L.map Value.ref) := fun j h1 h2 => by
  have q : j.toNatClampNeg < L.length := by rw [hl]; exact own_lti h1 h2
  simp [own_ff, List.getD_eq_getElem?_getD, List.getElem?_append_left q, List.getElem?_map, List.getElem?_eq_getElem q]
theorem own_la {Z : State} {h : Heap} {a : Addr} {C n d : String} (F : Fld Z h a C n d (.double 0)) : Fld Z h a C n d (.double (FP.i2d 0)) := by rw [own_i2d0]; exact F
theorem own_gm : own_G own_pd (.double (0 : UInt64)) (8 : Int32) [(.double (0 : UInt64)), (.double (0 : UInt64)), (.double (0 : UInt64)), (.double (0 : UInt64)), (.double (0 : UInt64)), (.double (0 : UInt64)), (.double (0 : UInt64)), (.double (0 : UInt64))] := own_G.all rfl (by intro v hv; simp at hv; subst hv; exact ⟨_, rfl, own_zero⟩)
theorem own_gp : own_G own_pj (.long (0 : Int64)) (8 : Int32) [(.long (0 : Int64)), (.long (0 : Int64)), (.long (0 : Int64)), (.long (0 : Int64)), (.long (0 : Int64)), (.long (0 : Int64)), (.long (0 : Int64)), (.long (0 : Int64))] := own_G.all rfl (by intro v hv; simp at hv; subst hv; exact ⟨_, rfl⟩)
theorem own_gc : own_G own_pn .null (8 : Int32) [.null, .null, .null, .null, .null, .null, .null, .null] := own_G.all rfl (by intro v hv; simp at hv; subst hv; rfl)
theorem own_17lt {x1 : Int32} (h : own_17 x1) (k : Int32) (hk : 8 ≤ k.toInt) : x1 < k := by
  rw [Int32.lt_iff_toInt_lt]
  have : x1.toInt ≤ 7 := by rcases h with rfl | rfl | rfl | rfl | rfl | rfl | rfl <;> decide
  omega
theorem own_17p {x1 : Int32} (h : own_17 x1) : (0 : Int32) < x1 := by rcases h with rfl | rfl | rfl | rfl | rfl | rfl | rfl <;> decide
theorem ef_rmNlz (m : MethodId) (x0 : Int32) : entryFrame m #[(.int x0)] 2 = mkF m 0 #[.val (.int x0), .unset] [] := by first | (simp [entryFrame, mkF, argsToLocals, Value.category]; done) | rfl
theorem d6_0 : decode jdk_33_method_47_code 0 = .ok (.iload_n 0, 1) := by decide +kernel
theorem d6_1 : decode jdk_33_method_47_code 1 = .ok (.ifCond .gt 14, 3) := by decide +kernel
theorem d6_15 : decode jdk_33_method_47_code 15 = .ok (.bipush 31, 2) := by decide +kernel
theorem d6_17 : decode jdk_33_method_47_code 17 = .ok (.istore_n 1, 1) := by decide +kernel
theorem d6_18 : decode jdk_33_method_47_code 18 = .ok (.iload_n 0, 1) := by decide +kernel
theorem d6_19 : decode jdk_33_method_47_code 19 = .ok (.ldc_w 264, 3) := by decide +kernel
theorem d6_22 : decode jdk_33_method_47_code 22 = .ok (.if_icmp .lt 11, 3) := by decide +kernel
theorem d6_33 : decode jdk_33_method_47_code 33 = .ok (.iload_n 0, 1) := by decide +kernel
theorem d6_34 : decode jdk_33_method_47_code 34 = .ok (.sipush 256, 3) := by decide +kernel
theorem d6_37 : decode jdk_33_method_47_code 37 = .ok (.if_icmp .lt 11, 3) := by decide +kernel
theorem d6_48 : decode jdk_33_method_47_code 48 = .ok (.iload_n 0, 1) := by decide +kernel
theorem d6_49 : decode jdk_33_method_47_code 49 = .ok (.bipush 16, 2) := by decide +kernel
theorem d6_51 : decode jdk_33_method_47_code 51 = .ok (.if_icmp .lt 10, 3) := by decide +kernel
theorem d6_61 : decode jdk_33_method_47_code 61 = .ok (.iload_n 0, 1) := by decide +kernel
theorem d6_62 : decode jdk_33_method_47_code 62 = .ok (.iconst 4, 1) := by decide +kernel
theorem d6_63 : decode jdk_33_method_47_code 63 = .ok (.if_icmp .lt 10, 3) := by decide +kernel
theorem d6_66 : decode jdk_33_method_47_code 66 = .ok (.iinc 1 (-2), 3) := by decide +kernel
theorem d6_69 : decode jdk_33_method_47_code 69 = .ok (.iload_n 0, 1) := by decide +kernel
theorem d6_70 : decode jdk_33_method_47_code 70 = .ok (.iconst 2, 1) := by decide +kernel
theorem d6_71 : decode jdk_33_method_47_code 71 = .ok (.iushr, 1) := by decide +kernel
theorem d6_72 : decode jdk_33_method_47_code 72 = .ok (.istore_n 0, 1) := by decide +kernel
theorem d6_73 : decode jdk_33_method_47_code 73 = .ok (.iload_n 1, 1) := by decide +kernel
theorem d6_74 : decode jdk_33_method_47_code 74 = .ok (.iload_n 0, 1) := by decide +kernel
theorem d6_75 : decode jdk_33_method_47_code 75 = .ok (.iconst 1, 1) := by decide +kernel
theorem d6_76 : decode jdk_33_method_47_code 76 = .ok (.iushr, 1) := by decide +kernel
theorem d6_77 : decode jdk_33_method_47_code 77 = .ok (.isub, 1) := by decide +kernel
theorem d6_78 : decode jdk_33_method_47_code 78 = .ok (.ireturn, 1) := by decide +kernel
theorem pn_java_lang_Integer : plainName "java/lang/Integer" = true := by first | (simp [plainName, overriddenIn]; done) | decide +kernel
def Q_rmNlz (Z : State) (x1 : Int32) (h0 : Heap) (n0 : Nat) (v : Option Value) (h : Heap) (L : List Loc) : Prop := ∃ (r1 : Int32), v = some (.int r1) ∧ Fr n0 L ∧ h = h0 ∧ (r1 = own_nl x1)
set_option maxRecDepth 65536 in
set_option maxHeartbeats 40000000 in
theorem rmNlz (l : Launch) (Z : State) (a0 : Array Value) (hw : ∀ d ∈ tables_1, d.before a0 Z = true) (ws : List Jvm.Cond) (x1 : Int32) (h0 : Heap) (n0 : Nat) (Z0 : n0 ≤ h0.size) (OLD : Old Z n0 h0) (hx7 : own_17 x1) :
    MetFree l (⟨"java/lang/Integer", "numberOfLeadingZeros", "(I)I"⟩ : MethodName) (head1 (Jvm.Cond.code (⟨"java/lang/Integer", "numberOfLeadingZeros", "(I)I"⟩ : MethodName) jdk_33_method_47_code 2 (some .int) :: ws) ({ frames := 0, cells := 0, slots := 0, locals := 0 } : Room)) (fun a U => a = #[(.int x1)] ∧ Z.Warmed39 U.vm ∧ U.heap = h0) (fun _ _ _ _ _ => True) (fun _ U o U' => ∃ v L, o = .returned v ∧ Q_rmNlz Z x1 h0 n0 v U'.heap L ∧ FrameEnd U o U' L ({ frames := 0, cells := 0, slots := 0, locals := 0 } : Room).cells ({ frames := 0, cells := 0, slots := 0, locals := 0 } : Room).slots) := by
  refine MetFree.of_bodySF (plainFor_of_name pn_java_lang_Integer) hisR ?_
  intro p e s m args below meth c s₁ Bd hml0 hP hK
  obtain ⟨rfl, hZ, hh⟩ := hP
  have hx := Bd.exec
  have hby := Bd.bytes
  have hml : c.maxLocals = 2 := hml0
  have hown : s.vm.findClass "java/lang/Integer" = some m.cls := findClass_of_methodNamed Bd.named
  have hnm := (name_of_methodNamed Bd.named Bd.method).1
  have X0 : Stand p l e ({ frames := 0, cells := 0, slots := 0, locals := 0 } : Room) s m #[(.int x1)] below meth c s₁ [] 0 0 := Stand.of_body Bd
  have e0 : s₁.heap = h0 := by rw [← hh, Bd.state]; rfl
  have N0 := Fr.nil n0
  have pre0 : ∀ t, Steps p.tables e below (s₁.setTop (mkF m 0 #[.val (.int x1), .unset] [])) t → Steps p.tables e below (s₁.setTop (entryFrame m #[(.int x1)] 2)) t := fun t k => castTop (ef_rmNlz m x1) k
  have oz := OLD.1
  refine own_go (B := s₁.setTop (mkF m 0 #[.val (.int x1), .unset] [])) pre0 ?_
  show ∃ t o, Steps p.tables e below (s₁.setTop (mkF m 0 #[.val (.int x1), .unset] [])) t ∧ _
  refine own_go (fun _ => XS.iloadN X0.here hx rfl (hb hby d6_0) rfl) ?_
  show ∃ t o, Steps p.tables e below (s₁.setTop (mkF m 1 #[.val (.int x1), .unset] [(.int x1)])) t ∧ _
  have hd1 : (0 : Int32) < x1 := own_17p hx7
  refine own_go (fun _ => XS.ifYes X0.here hx rfl (pc0 := 1) (pc' := 15) rfl (hb hby d6_1) rfl ((if0 _ _).trans (tlt hd1).2.2.1) (by decide) (by decide)) ?_
  refine own_go (fun _ => XS.bipush X0.here hx rfl (hb hby d6_15)) ?_
  refine own_go (fun _ => XS.istoreN X0.here hx rfl (hb hby d6_17) rfl (l' := #[.val (.int x1), .val (.int (31 : Int32))]) rfl) ?_
  refine own_go (fun _ => XS.iloadN X0.here hx rfl (hb hby d6_18) rfl) ?_
  refine own_go (fun _ => X0.ldcwInt hx hown (mvT hZ (hw _ (List.mem_of_getElem? (i := 24) rfl))) (g := (mkF m 19 #[.val (.int x1), .val (.int (31 : Int32))] [(.int x1)])) rfl (hb hby d6_19) _) ?_
  show ∃ t o, Steps p.tables e below (s₁.setTop (mkF m 22 #[.val (.int x1), .val (.int (31 : Int32))] [(.int (65536 : Int32)), (.int x1)])) t ∧ _
  have hd2 : x1 < (65536 : Int32) := own_17lt hx7 (65536 : Int32) (by decide)
  refine own_go (fun _ => XS.icmpYes X0.here hx rfl (pc0 := 22) (pc' := 33) rfl (hb hby d6_22) rfl (tlt hd2).1 (by decide) (by decide)) ?_
  refine own_go (fun _ => XS.iloadN X0.here hx rfl (hb hby d6_33) rfl) ?_
  refine own_go (fun _ => XS.sipush X0.here hx rfl (hb hby d6_34)) ?_
  show ∃ t o, Steps p.tables e below (s₁.setTop (mkF m 37 #[.val (.int x1), .val (.int (31 : Int32))] [(.int (256 : Int32)), (.int x1)])) t ∧ _
  have hd3 : x1 < (256 : Int32) := own_17lt hx7 (256 : Int32) (by decide)
  refine own_go (fun _ => XS.icmpYes X0.here hx rfl (pc0 := 37) (pc' := 48) rfl (hb hby d6_37) rfl (tlt hd3).1 (by decide) (by decide)) ?_
  refine own_go (fun _ => XS.iloadN X0.here hx rfl (hb hby d6_48) rfl) ?_
  refine own_go (fun _ => XS.bipush X0.here hx rfl (hb hby d6_49)) ?_
  show ∃ t o, Steps p.tables e below (s₁.setTop (mkF m 51 #[.val (.int x1), .val (.int (31 : Int32))] [(.int (16 : Int32)), (.int x1)])) t ∧ _
  have hd4 : x1 < (16 : Int32) := own_17lt hx7 (16 : Int32) (by decide)
  refine own_go (fun _ => XS.icmpYes X0.here hx rfl (pc0 := 51) (pc' := 61) rfl (hb hby d6_51) rfl (tlt hd4).1 (by decide) (by decide)) ?_
  refine own_go (fun _ => XS.iloadN X0.here hx rfl (hb hby d6_61) rfl) ?_
  refine own_go (fun _ => XS.iconst X0.here hx rfl (hb hby d6_62)) ?_
  show ∃ t o, Steps p.tables e below (s₁.setTop (mkF m 63 #[.val (.int x1), .val (.int (31 : Int32))] [(.int (4 : Int32)), (.int x1)])) t ∧ _
  have seg5 : ∀ t, Steps p.tables e below (s₁.setTop (mkF m 73 #[.val (.int (if x1 < (4 : Int32) then x1 else ((x1.toUInt32 >>> ((2 : Int32) &&& 31).toUInt32).toInt32))), .val (.int (if x1 < (4 : Int32) then (31 : Int32) else (29 : Int32)))] [])) t → Steps p.tables e below (s₁.setTop (mkF m 63 #[.val (.int x1), .val (.int (31 : Int32))] [(.int (4 : Int32)), (.int x1)])) t := by
    intro t k
    show Steps p.tables e below (s₁.setTop (mkF m 63 #[.val (.int x1), .val (.int (31 : Int32))] [(.int (4 : Int32)), (.int x1)])) _
    by_cases hc6 : x1 < (4 : Int32)
    · refine XS.icmpYes X0.here hx rfl (pc0 := 63) (pc' := 73) rfl (hb hby d6_63) rfl (tlt hc6).1 (by decide) (by decide) ?_
      simp only [if_pos hc6] at k
      exact k
    · refine XS.icmpNo X0.here hx rfl (hb hby d6_63) rfl (flt hc6).1 ?_
      show Steps p.tables e below (s₁.setTop (mkF m 66 #[.val (.int x1), .val (.int (31 : Int32))] [])) _
      refine XS.iinc X0.here hx rfl (hb hby d6_66) rfl (l' := #[.val (.int x1), .val (.int (29 : Int32))]) rfl ?_
      show Steps p.tables e below (s₁.setTop (mkF m 69 #[.val (.int x1), .val (.int (29 : Int32))] [])) _
      refine XS.iloadN X0.here hx rfl (hb hby d6_69) rfl ?_
      show Steps p.tables e below (s₁.setTop (mkF m 70 #[.val (.int x1), .val (.int (29 : Int32))] [(.int x1)])) _
      refine XS.iconst X0.here hx rfl (hb hby d6_70) ?_
      show Steps p.tables e below (s₁.setTop (mkF m 71 #[.val (.int x1), .val (.int (29 : Int32))] [(.int (2 : Int32)), (.int x1)])) _
      refine XS.iushr X0.here hx rfl (hb hby d6_71) rfl ?_
      show Steps p.tables e below (s₁.setTop (mkF m 72 #[.val (.int x1), .val (.int (29 : Int32))] [(.int ((x1.toUInt32 >>> ((2 : Int32) &&& 31).toUInt32).toInt32))])) _
      refine XS.istoreN X0.here hx rfl (hb hby d6_72) rfl (l' := #[.val (.int ((x1.toUInt32 >>> ((2 : Int32) &&& 31).toUInt32).toInt32)), .val (.int (29 : Int32))]) rfl ?_
      simp only [if_neg hc6] at k
      exact k
  refine own_go seg5 ?_
  refine own_go (fun _ => XS.iloadN X0.here hx rfl (hb hby d6_73) rfl) ?_
  refine own_go (fun _ => XS.iloadN X0.here hx rfl (hb hby d6_74) rfl) ?_
  refine own_go (fun _ => XS.iconst X0.here hx rfl (hb hby d6_75)) ?_
  refine own_go (fun _ => XS.iushr X0.here hx rfl (hb hby d6_76) rfl) ?_
  refine own_go (fun _ => XS.isub X0.here hx rfl (hb hby d6_77) rfl) ?_
  show ∃ t o, Steps p.tables e below (s₁.setTop (mkF m 78 #[.val (.int (if x1 < (4 : Int32) then x1 else ((x1.toUInt32 >>> ((2 : Int32) &&& 31).toUInt32).toInt32))), .val (.int (if x1 < (4 : Int32) then (31 : Int32) else (29 : Int32)))] [(.int ((if x1 < (4 : Int32) then (31 : Int32) else (29 : Int32)) - (((if x1 < (4 : Int32) then x1 else ((x1.toUInt32 >>> ((2 : Int32) &&& 31).toUInt32).toInt32)).toUInt32 >>> ((1 : Int32) &&& 31).toUInt32).toInt32)))])) t ∧ _
  obtain ⟨fs, hr, hrun, hended, hW, hsame⟩ := X0.leave (v := some (.int ((if x1 < (4 : Int32) then (31 : Int32) else (29 : Int32)) - (((if x1 < (4 : Int32) then x1 else ((x1.toUInt32 >>> ((2 : Int32) &&& 31).toUInt32).toInt32)).toUInt32 >>> ((1 : Int32) &&& 31).toUInt32).toInt32)))) (fun h => by rw [Bd.returns] at h; cases h)
  refine ⟨_, _, ?_, hrun, hended, _, _, rfl, ?_, ⟨_, rfl⟩, hW, hsame.mono (by decide) (by decide)⟩
  · exact retI X0 hx Bd.returns (hb hby d6_78) hr
  · show Q_rmNlz Z _ h0 n0 _ s₁.heap _
    rw [e0]
    exact ⟨((if x1 < (4 : Int32) then (31 : Int32) else (29 : Int32)) - (((if x1 < (4 : Int32) then x1 else ((x1.toUInt32 >>> ((2 : Int32) &&& 31).toUInt32).toInt32)).toUInt32 >>> ((1 : Int32) &&& 31).toUInt32).toInt32)), rfl, N0, rfl, (by rcases hx7 with rfl | rfl | rfl | rfl | rfl | rfl | rfl <;> decide)⟩
theorem ef_rmHB (m : MethodId) (x0 : Int32) : entryFrame m #[(.int x0)] 1 = mkF m 0 #[.val (.int x0)] [] := by first | (simp [entryFrame, mkF, argsToLocals, Value.category]; done) | rfl
theorem d5_0 : decode jdk_33_method_45_code 0 = .ok (.iload_n 0, 1) := by decide +kernel
theorem d5_1 : decode jdk_33_method_45_code 1 = .ok (.ldc 127, 2) := by decide +kernel
theorem d5_3 : decode jdk_33_method_45_code 3 = .ok (.iload_n 0, 1) := by decide +kernel
theorem d5_4 : decode jdk_33_method_45_code 4 = .ok (.invokestatic 51, 3) := by decide +kernel
theorem pd__28I_29I : parseMethodDescriptor "(I)I" = some ⟨[.int], some .int⟩ := by decide +kernel
theorem d5_7 : decode jdk_33_method_45_code 7 = .ok (.iushr, 1) := by decide +kernel
theorem d5_8 : decode jdk_33_method_45_code 8 = .ok (.iand, 1) := by decide +kernel
theorem d5_9 : decode jdk_33_method_45_code 9 = .ok (.ireturn, 1) := by decide +kernel
def Q_rmHB (Z : State) (x1 : Int32) (h0 : Heap) (n0 : Nat) (v : Option Value) (h : Heap) (L : List Loc) : Prop := ∃ (r1 : Int32), v = some (.int r1) ∧ Fr n0 L ∧ h = h0 ∧ (r1 = own_hb x1)
set_option maxRecDepth 65536 in
set_option maxHeartbeats 40000000 in
theorem rmHB (l : Launch) (Z : State) (a0 : Array Value) (hw : ∀ d ∈ tables_1, d.before a0 Z = true) (ws : List Jvm.Cond) (x1 : Int32) (h0 : Heap) (n0 : Nat) (Z0 : n0 ≤ h0.size) (OLD : Old Z n0 h0) (hx7 : own_17 x1) :
    MetFree l (⟨"java/lang/Integer", "highestOneBit", "(I)I"⟩ : MethodName) (head1 (Jvm.Cond.code (⟨"java/lang/Integer", "highestOneBit", "(I)I"⟩ : MethodName) jdk_33_method_45_code 1 (some .int) :: ws) ({ frames := 1, cells := 0, slots := 0, locals := 15 } : Room)) (fun a U => a = #[(.int x1)] ∧ Z.Warmed39 U.vm ∧ U.heap = h0) (fun _ _ _ _ _ => True) (fun _ U o U' => ∃ v L, o = .returned v ∧ Q_rmHB Z x1 h0 n0 v U'.heap L ∧ FrameEnd U o U' L ({ frames := 1, cells := 0, slots := 0, locals := 15 } : Room).cells ({ frames := 1, cells := 0, slots := 0, locals := 15 } : Room).slots) := by
  refine MetFree.of_bodySF (plainFor_of_name pn_java_lang_Integer) hisR ?_
  intro p e s m args below meth c s₁ Bd hml0 hP hK
  obtain ⟨rfl, hZ, hh⟩ := hP
  have hx := Bd.exec
  have hby := Bd.bytes
  have hml : c.maxLocals = 1 := hml0
  have hown : s.vm.findClass "java/lang/Integer" = some m.cls := findClass_of_methodNamed Bd.named
  have hnm := (name_of_methodNamed Bd.named Bd.method).1
  have X0 : Stand p l e ({ frames := 1, cells := 0, slots := 0, locals := 15 } : Room) s m #[(.int x1)] below meth c s₁ [] 0 0 := Stand.of_body Bd
  have e0 : s₁.heap = h0 := by rw [← hh, Bd.state]; rfl
  have N0 := Fr.nil n0
  have pre0 : ∀ t, Steps p.tables e below (s₁.setTop (mkF m 0 #[.val (.int x1)] [])) t → Steps p.tables e below (s₁.setTop (entryFrame m #[(.int x1)] 1)) t := fun t k => castTop (ef_rmHB m x1) k
  have w_18 := hw _ (List.mem_of_getElem? (i := 18) rfl)
  have w_23 := hw _ (List.mem_of_getElem? (i := 23) rfl)
  have oz := OLD.1
  refine own_go (B := s₁.setTop (mkF m 0 #[.val (.int x1)] [])) pre0 ?_
  show ∃ t o, Steps p.tables e below (s₁.setTop (mkF m 0 #[.val (.int x1)] [])) t ∧ _
  refine own_go (fun _ => XS.iloadN X0.here hx rfl (hb hby d5_0) rfl) ?_
  refine own_go (fun _ => X0.ldcInt hx hown (mvT hZ (hw _ (List.mem_of_getElem? (i := 20) rfl))) (g := (mkF m 1 #[.val (.int x1)] [(.int x1)])) rfl (hb hby d5_1) _) ?_
  refine own_go (fun _ => XS.iloadN X0.here hx rfl (hb hby d5_3) rfl) ?_
  show ∃ t o, Steps p.tables e below (s₁.setTop (mkF m 4 #[.val (.int x1)] [(.int x1), (.int (-2147483648 : Int32)), (.int x1)])) t ∧ _
  obtain ⟨_, _, ⟨T1, L1, k1, n1⟩, -, X1, ⟨Lc1, hQ1, l1, y1, z1⟩, st1⟩ := Jvm.LawKit.callS X0 hx (y := (⟨"java/lang/Integer", "numberOfLeadingZeros", "(I)I"⟩ : MethodName)) hown (mvT hZ (hw _ (List.mem_of_getElem? (i := 21) rfl))) (mvT hZ (hw _ (List.mem_of_getElem? (i := 22) rfl))) (mvT hZ w_18) (mvT hZ w_23) (by decide) (backOf (W := 2) (rmNlz l Z a0 hw [] x1 h0 n0 Z0 OLD hx7) hZ w_23 w_18 (by decide) (by decide)) (g := (mkF m 4 #[.val (.int x1)] [(.int x1), (.int (-2147483648 : Int32)), (.int x1)])) rfl (by rw [hml]; rfl) (argsL := [(.int x1)]) (rest := [(.int (-2147483648 : Int32)), (.int x1)]) (lenOf pd__28I_29I rfl) rfl (by show 2 * 0 + _ ≤ _; exact Nat.le_of_eq rfl) (hb hby d5_4) (fun _ _ => ⟨rfl, e0, (by decide : 0 + 0 ≤ _), (by decide : 0 + 0 ≤ _)⟩)
  dsimp only [Pt.U, Pt.locs, Pt.cells, Pt.slots] at X1 l1 y1 z1 st1 hQ1
  rw [l1, y1, z1] at X1
  obtain ⟨r1_1, rfl, Nq1, e1, H1_0⟩ := hQ1
  have N1 := Fr.app N0 Nq1
  refine own_go st1 ?_
  refine own_go (fun _ => XS.iushr X1.here hx rfl (hb hby d5_7) rfl) ?_
  refine own_go (fun _ => XS.iand X1.here hx rfl (hb hby d5_8) rfl) ?_
  show ∃ t o, Steps p.tables e below (T1.setTop (mkF m 9 #[.val (.int x1)] [(.int (x1 &&& (((-2147483648 : Int32).toUInt32 >>> (r1_1 &&& 31).toUInt32).toInt32)))])) t ∧ _
  obtain ⟨fs, hr, hrun, hended, hW, hsame⟩ := X1.leave (v := some (.int (x1 &&& (((-2147483648 : Int32).toUInt32 >>> (r1_1 &&& 31).toUInt32).toInt32)))) (fun h => by rw [Bd.returns] at h; cases h)
  refine ⟨_, _, ?_, hrun, hended, _, _, rfl, ?_, ⟨_, rfl⟩, hW, hsame.mono (by decide) (by decide)⟩
  · exact retI X1 hx Bd.returns (hb hby d5_9) hr
  · show Q_rmHB Z _ h0 n0 _ T1.heap _
    rw [e1]
    exact ⟨(x1 &&& (((-2147483648 : Int32).toUInt32 >>> (r1_1 &&& 31).toUInt32).toInt32)), rfl, N1, rfl, (by rw [H1_0]; rcases hx7 with rfl | rfl | rfl | rfl | rfl | rfl | rfl <;> decide)⟩
theorem ef_rmQI (m : MethodId) (x0 : Nat) (x1 : Int32) : entryFrame m #[(.ref x0), (.int x1)] 4 = mkF m 0 #[.val (.ref x0), .val (.int x1), .unset, .unset] [] := by first | (simp [entryFrame, mkF, argsToLocals, Value.category]; done) | rfl
theorem d2_0 : decode prog_164_method_1_code 0 = .ok (.aload_n 0, 1) := by decide +kernel
theorem d2_1 : decode prog_164_method_1_code 1 = .ok (.invokespecial 1, 3) := by decide +kernel
theorem d2_4 : decode prog_164_method_1_code 4 = .ok (.iconst 1, 1) := by decide +kernel
theorem d2_5 : decode prog_164_method_1_code 5 = .ok (.iload_n 1, 1) := by decide +kernel
theorem d2_6 : decode prog_164_method_1_code 6 = .ok (.iconst 1, 1) := by decide +kernel
theorem d2_7 : decode prog_164_method_1_code 7 = .ok (.isub, 1) := by decide +kernel
theorem d2_8 : decode prog_164_method_1_code 8 = .ok (.invokestatic 7, 3) := by decide +kernel
theorem pd__28II_29I : parseMethodDescriptor "(II)I" = some ⟨[.int, .int], some .int⟩ := by decide +kernel
theorem d2_11 : decode prog_164_method_1_code 11 = .ok (.invokestatic 13, 3) := by decide +kernel
theorem d2_14 : decode prog_164_method_1_code 14 = .ok (.iconst 1, 1) := by decide +kernel
theorem d2_15 : decode prog_164_method_1_code 15 = .ok (.ishl, 1) := by decide +kernel
theorem d2_16 : decode prog_164_method_1_code 16 = .ok (.istore_n 2, 1) := by decide +kernel
theorem d2_17 : decode prog_164_method_1_code 17 = .ok (.aload_n 0, 1) := by decide +kernel
theorem d2_18 : decode prog_164_method_1_code 18 = .ok (.iload_n 2, 1) := by decide +kernel
theorem d2_19 : decode prog_164_method_1_code 19 = .ok (.anewarray 19, 3) := by decide +kernel
theorem d2_22 : decode prog_164_method_1_code 22 = .ok (.putfield 21, 3) := by decide +kernel
theorem d2_25 : decode prog_164_method_1_code 25 = .ok (.aload_n 0, 1) := by decide +kernel
theorem d2_26 : decode prog_164_method_1_code 26 = .ok (.iload_n 2, 1) := by decide +kernel
theorem d2_27 : decode prog_164_method_1_code 27 = .ok (.newarray .double, 2) := by decide +kernel
theorem d2_29 : decode prog_164_method_1_code 29 = .ok (.putfield 27, 3) := by decide +kernel
theorem d2_32 : decode prog_164_method_1_code 32 = .ok (.aload_n 0, 1) := by decide +kernel
theorem d2_33 : decode prog_164_method_1_code 33 = .ok (.iload_n 2, 1) := by decide +kernel
theorem d2_34 : decode prog_164_method_1_code 34 = .ok (.newarray .long, 2) := by decide +kernel
theorem d2_36 : decode prog_164_method_1_code 36 = .ok (.putfield 31, 3) := by decide +kernel
theorem d2_39 : decode prog_164_method_1_code 39 = .ok (.aload_n 0, 1) := by decide +kernel
theorem d2_40 : decode prog_164_method_1_code 40 = .ok (.iconst 2, 1) := by decide +kernel
theorem d2_41 : decode prog_164_method_1_code 41 = .ok (.iload_n 2, 1) := by decide +kernel
theorem d2_42 : decode prog_164_method_1_code 42 = .ok (.imul, 1) := by decide +kernel
theorem d2_43 : decode prog_164_method_1_code 43 = .ok (.newarray .int, 2) := by decide +kernel
theorem d2_45 : decode prog_164_method_1_code 45 = .ok (.putfield 35, 3) := by decide +kernel
theorem d2_48 : decode prog_164_method_1_code 48 = .ok (.iconst 0, 1) := by decide +kernel
theorem d2_49 : decode prog_164_method_1_code 49 = .ok (.istore_n 3, 1) := by decide +kernel
theorem d2_50 : decode prog_164_method_1_code 50 = .ok (.iload_n 3, 1) := by decide +kernel
theorem d2_51 : decode prog_164_method_1_code 51 = .ok (.iload_n 2, 1) := by decide +kernel
theorem d2_52 : decode prog_164_method_1_code 52 = .ok (.if_icmp .ge 49, 3) := by decide +kernel
theorem d2_55 : decode prog_164_method_1_code 55 = .ok (.aload_n 0, 1) := by decide +kernel
theorem d2_56 : decode prog_164_method_1_code 56 = .ok (.getfield 21, 3) := by decide +kernel
theorem d2_59 : decode prog_164_method_1_code 59 = .ok (.iload_n 3, 1) := by decide +kernel
theorem d2_60 : decode prog_164_method_1_code 60 = .ok (.new 19, 3) := by decide +kernel
theorem d2_63 : decode prog_164_method_1_code 63 = .ok (.dup, 1) := by decide +kernel
theorem d2_64 : decode prog_164_method_1_code 64 = .ok (.invokespecial 39, 3) := by decide +kernel
theorem d2_67 : decode prog_164_method_1_code 67 = .ok (.aastore, 1) := by decide +kernel
theorem d2_68 : decode prog_164_method_1_code 68 = .ok (.aload_n 0, 1) := by decide +kernel
theorem d2_69 : decode prog_164_method_1_code 69 = .ok (.getfield 27, 3) := by decide +kernel
theorem d2_72 : decode prog_164_method_1_code 72 = .ok (.iload_n 3, 1) := by decide +kernel
theorem d2_73 : decode prog_164_method_1_code 73 = .ok (.ldc2_w 42, 3) := by decide +kernel
theorem d2_76 : decode prog_164_method_1_code 76 = .ok (.dastore, 1) := by decide +kernel
theorem d2_77 : decode prog_164_method_1_code 77 = .ok (.aload_n 0, 1) := by decide +kernel
theorem d2_78 : decode prog_164_method_1_code 78 = .ok (.getfield 31, 3) := by decide +kernel
theorem d2_81 : decode prog_164_method_1_code 81 = .ok (.iload_n 3, 1) := by decide +kernel
theorem d2_82 : decode prog_164_method_1_code 82 = .ok (.ldc2_w 46, 3) := by decide +kernel
theorem d2_85 : decode prog_164_method_1_code 85 = .ok (.lastore, 1) := by decide +kernel
theorem d2_86 : decode prog_164_method_1_code 86 = .ok (.aload_n 0, 1) := by decide +kernel
theorem d2_87 : decode prog_164_method_1_code 87 = .ok (.getfield 35, 3) := by decide +kernel
theorem d2_90 : decode prog_164_method_1_code 90 = .ok (.iload_n 2, 1) := by decide +kernel
theorem d2_91 : decode prog_164_method_1_code 91 = .ok (.iload_n 3, 1) := by decide +kernel
theorem d2_92 : decode prog_164_method_1_code 92 = .ok (.iadd, 1) := by decide +kernel
theorem d2_93 : decode prog_164_method_1_code 93 = .ok (.iload_n 3, 1) := by decide +kernel
theorem d2_94 : decode prog_164_method_1_code 94 = .ok (.iastore, 1) := by decide +kernel
theorem d2_95 : decode prog_164_method_1_code 95 = .ok (.iinc 3 1, 3) := by decide +kernel
theorem d2_98 : decode prog_164_method_1_code 98 = .ok (.goto (-48), 3) := by decide +kernel
theorem d2_101 : decode prog_164_method_1_code 101 = .ok (.iload_n 2, 1) := by decide +kernel
theorem d2_102 : decode prog_164_method_1_code 102 = .ok (.iconst 1, 1) := by decide +kernel
theorem d2_103 : decode prog_164_method_1_code 103 = .ok (.isub, 1) := by decide +kernel
theorem d2_104 : decode prog_164_method_1_code 104 = .ok (.istore_n 3, 1) := by decide +kernel
theorem d2_105 : decode prog_164_method_1_code 105 = .ok (.iload_n 3, 1) := by decide +kernel
theorem d2_106 : decode prog_164_method_1_code 106 = .ok (.ifCond .le 14, 3) := by decide +kernel
theorem d2_109 : decode prog_164_method_1_code 109 = .ok (.aload_n 0, 1) := by decide +kernel
theorem d2_110 : decode prog_164_method_1_code 110 = .ok (.iload_n 3, 1) := by decide +kernel
theorem d2_111 : decode prog_164_method_1_code 111 = .ok (.invokevirtual 48, 3) := by decide +kernel
theorem d2_114 : decode prog_164_method_1_code 114 = .ok (.iinc 3 (-1), 3) := by decide +kernel
theorem d2_117 : decode prog_164_method_1_code 117 = .ok (.goto (-12), 3) := by decide +kernel
theorem d2_120 : decode prog_164_method_1_code 120 = .ok (.return_, 1) := by decide +kernel
def Q_rmQI (Z : State) (q1 : Nat) (z1 : Int32) (h0 : Heap) (n0 : Nat) (v : Option Value) (h : Heap) (L : List Loc) : Prop := ∃ (ss : Nat), ∃ (fa : Nat), ∃ (fp : Nat), ∃ (wi : Nat), ∃ (ks : ClassId), ∃ (kf : ClassId), ∃ (kp : ClassId), ∃ (kw : ClassId), ∃ (vs : List Value), ∃ (ds : List Value), ∃ (ls : List Value), ∃ (wl : List Value), ∃ (ff : Nat → Nat), ∃ (zN : Int32), ∃ (z2 : Int32), v = none ∧ Fr n0 L ∧ Keep h0 h [q1] ∧ Exa Z h q1 "com/example/holdback/holdback/sim/EventQueue" ∧ Fld Z h q1 "com/example/holdback/holdback/sim/EventQueue" "firstAt" "[D" (.ref fa) ∧ Fld Z h q1 "com/example/holdback/holdback/sim/EventQueue" "firstPlace" "[J" (.ref fp) ∧ Fld Z h q1 "com/example/holdback/holdback/sim/EventQueue" "winners" "[I" (.ref wi) ∧ Arv Z h fa kf .double zN ds (.double (0 : UInt64)) ∧ Arv Z h fp kp .long zN ls (.long (0 : Int64)) ∧ Arv Z h wi kw .int z2 wl (.int (0 : Int32)) ∧ Fld Z h q1 "com/example/holdback/holdback/sim/EventQueue" "streams" "[Lcom/example/holdback/holdback/sim/EventQueue$Stream;" (.ref ss) ∧ Arv Z h ss ks (.object "com/example/holdback/holdback/sim/EventQueue$Stream") zN vs .null ∧ own_SS Z h zN.toNatClampNeg ff (0 : Int) (0 : Int) ∧ Fld Z h q1 "com/example/holdback/holdback/sim/EventQueue" "size" "I" (.int (0 : Int32)) ∧ Fld Z h q1 "com/example/holdback/holdback/sim/EventQueue" "scheduled" "J" (.long (0 : Int64)) ∧ (own_G own_pd (.double (0 : UInt64)) zN ds) ∧ (own_G own_pj (.long (0 : Int64)) zN ls) ∧ (own_G (own_pw zN) (.int (0 : Int32)) z2 wl) ∧ (own_N zN z2) ∧ (own_R zN ff vs) ∧ (q1 < ss) ∧ (ss < fa) ∧ (fa < fp) ∧ (fp < wi) ∧ (wi < ff 0) ∧ (z1.toInt ≤ zN.toInt)
set_option maxRecDepth 65536 in
set_option maxHeartbeats 40000000 in
theorem rmQI (l : Launch) (Z : State) (a0 : Array Value) (hw : ∀ d ∈ tables_1, d.before a0 Z = true) (ws : List Jvm.Cond) (q1 : Nat) (z1 : Int32) (h0 : Heap) (n0 : Nat) (Z0 : n0 ≤ h0.size) (P1 : Exa Z h0 q1 "com/example/holdback/holdback/sim/EventQueue") (P2 : Fld Z h0 q1 "com/example/holdback/holdback/sim/EventQueue" "streams" "[Lcom/example/holdback/holdback/sim/EventQueue$Stream;" .null) (P3 : Fld Z h0 q1 "com/example/holdback/holdback/sim/EventQueue" "firstAt" "[D" .null) (P4 : Fld Z h0 q1 "com/example/holdback/holdback/sim/EventQueue" "firstPlace" "[J" .null) (P5 : Fld Z h0 q1 "com/example/holdback/holdback/sim/EventQueue" "winners" "[I" .null) (P6 : Fld Z h0 q1 "com/example/holdback/holdback/sim/EventQueue" "size" "I" (.int (0 : Int32))) (P7 : Fld Z h0 q1 "com/example/holdback/holdback/sim/EventQueue" "scheduled" "J" (.long (0 : Int64))) (OLD : Old Z n0 h0) (hz : own_18 z1) (gq : n0 ≤ q1) :
    MetFree l (⟨"com/example/holdback/holdback/sim/EventQueue", "<init>", "(I)V"⟩ : MethodName) (head1 (Jvm.Cond.code (⟨"com/example/holdback/holdback/sim/EventQueue", "<init>", "(I)V"⟩ : MethodName) prog_164_method_1_code 4 none :: ws) ({ frames := 4, cells := 36, slots := 280, locals := 109 } : Room)) (fun a U => a = #[(.ref q1), (.int z1)] ∧ Z.Warmed39 U.vm ∧ U.heap = h0) (fun _ _ _ _ _ => True) (fun _ U o U' => ∃ v L, o = .returned v ∧ Q_rmQI Z q1 z1 h0 n0 v U'.heap L ∧ FrameEnd U o U' L ({ frames := 4, cells := 36, slots := 280, locals := 109 } : Room).cells ({ frames := 4, cells := 36, slots := 280, locals := 109 } : Room).slots) := by
  refine MetFree.of_bodySF (plainFor_of_name pn_com_example_holdback_holdback_sim_EventQueue) hisR ?_
  intro p e s m args below meth c s₁ Bd hml0 hP hK
  obtain ⟨rfl, hZ, hh⟩ := hP
  have hx := Bd.exec
  have hby := Bd.bytes
  have hml : c.maxLocals = 4 := hml0
  have hown : s.vm.findClass "com/example/holdback/holdback/sim/EventQueue" = some m.cls := findClass_of_methodNamed Bd.named
  have hnm := (name_of_methodNamed Bd.named Bd.method).1
  have X0 : Stand p l e ({ frames := 4, cells := 36, slots := 280, locals := 109 } : Room) s m #[(.ref q1), (.int z1)] below meth c s₁ [] 0 0 := Stand.of_body Bd
  have e0 : s₁.heap = h0 := by rw [← hh, Bd.state]; rfl
  have N0 := Fr.nil n0
  have pre0 : ∀ t, Steps p.tables e below (s₁.setTop (mkF m 0 #[.val (.ref q1), .val (.int z1), .unset, .unset] [])) t → Steps p.tables e below (s₁.setTop (entryFrame m #[(.ref q1), (.int z1)] 4)) t := fun t k => castTop (ef_rmQI m q1 z1) k
  have w_15 := hw _ (List.mem_of_getElem? (i := 15) rfl)
  have w_18 := hw _ (List.mem_of_getElem? (i := 18) rfl)
  have w_19 := hw _ (List.mem_of_getElem? (i := 19) rfl)
  have w_2 := hw _ (List.mem_of_getElem? (i := 2) rfl)
  have w_25 := hw _ (List.mem_of_getElem? (i := 25) rfl)
  have w_26 := hw _ (List.mem_of_getElem? (i := 26) rfl)
  have w_27 := hw _ (List.mem_of_getElem? (i := 27) rfl)
  have w_28 := hw _ (List.mem_of_getElem? (i := 28) rfl)
  have w_29 := hw _ (List.mem_of_getElem? (i := 29) rfl)
  have w_30 := hw _ (List.mem_of_getElem? (i := 30) rfl)
  have w_31 := hw _ (List.mem_of_getElem? (i := 31) rfl)
  have w_32 := hw _ (List.mem_of_getElem? (i := 32) rfl)
  have w_33 := hw _ (List.mem_of_getElem? (i := 33) rfl)
  have w_34 := hw _ (List.mem_of_getElem? (i := 34) rfl)
  have w_35 := hw _ (List.mem_of_getElem? (i := 35) rfl)
  have w_36 := hw _ (List.mem_of_getElem? (i := 36) rfl)
  have w_37 := hw _ (List.mem_of_getElem? (i := 37) rfl)
  have w_38 := hw _ (List.mem_of_getElem? (i := 38) rfl)
  have w_39 := hw _ (List.mem_of_getElem? (i := 39) rfl)
  have w_40 := hw _ (List.mem_of_getElem? (i := 40) rfl)
  have w_41 := hw _ (List.mem_of_getElem? (i := 41) rfl)
  have w_42 := hw _ (List.mem_of_getElem? (i := 42) rfl)
  have w_45 := hw _ (List.mem_of_getElem? (i := 45) rfl)
  have w_47 := hw _ (List.mem_of_getElem? (i := 47) rfl)
  have w_5 := hw _ (List.mem_of_getElem? (i := 5) rfl)
  have w_51 := hw _ (List.mem_of_getElem? (i := 51) rfl)
  have w_53 := hw _ (List.mem_of_getElem? (i := 53) rfl)
  have w_54 := hw _ (List.mem_of_getElem? (i := 54) rfl)
  have w_55 := hw _ (List.mem_of_getElem? (i := 55) rfl)
  have w_56 := hw _ (List.mem_of_getElem? (i := 56) rfl)
  have w_57 := hw _ (List.mem_of_getElem? (i := 57) rfl)
  have w_58 := hw _ (List.mem_of_getElem? (i := 58) rfl)
  have w_6 := hw _ (List.mem_of_getElem? (i := 6) rfl)
  have w_75 := hw _ (List.mem_of_getElem? (i := 75) rfl)
  have w_78 := hw _ (List.mem_of_getElem? (i := 78) rfl)
  have w_85 := hw _ (List.mem_of_getElem? (i := 85) rfl)
  have w_87 := hw _ (List.mem_of_getElem? (i := 87) rfl)
  have w_94 := hw _ (List.mem_of_getElem? (i := 94) rfl)
  have w_96 := hw _ (List.mem_of_getElem? (i := 96) rfl)
  have oz := OLD.1
  have lt_q1 : q1 < h0.size := P1.lt
  refine own_go (B := s₁.setTop (mkF m 0 #[.val (.ref q1), .val (.int z1), .unset, .unset] [])) pre0 ?_
  show ∃ t o, Steps p.tables e below (s₁.setTop (mkF m 0 #[.val (.ref q1), .val (.int z1), .unset, .unset] [])) t ∧ _
  refine own_go (fun _ => XS.aloadN X0.here hx rfl (hb hby d2_0) rfl rfl) ?_
  show ∃ t o, Steps p.tables e below (s₁.setTop (mkF m 1 #[.val (.ref q1), .val (.int z1), .unset, .unset] [(.ref q1)])) t ∧ _
  obtain ⟨T8, X8, e8, st8⟩ := initO X0 hx hZ hown (hw _ (List.mem_of_getElem? (i := 10) rfl)) (hw _ (List.mem_of_getElem? (i := 11) rfl)) (hw _ (List.mem_of_getElem? (i := 12) rfl)) e0 (g := (mkF m 1 #[.val (.ref q1), .val (.int z1), .unset, .unset] [(.ref q1)])) rfl (by rw [hml]; rfl) rfl (hb hby d2_1) (by decide) (W := 0) (by show 2 * 0 + _ ≤ _; exact Nat.le_of_eq rfl) (by decide)
  refine own_go st8 ?_
  refine own_go (fun _ => XS.iconst X8.here hx rfl (hb hby d2_4)) ?_
  refine own_go (fun _ => XS.iloadN X8.here hx rfl (hb hby d2_5) rfl) ?_
  refine own_go (fun _ => XS.iconst X8.here hx rfl (hb hby d2_6)) ?_
  refine own_go (fun _ => XS.isub X8.here hx rfl (hb hby d2_7) rfl) ?_
  show ∃ t o, Steps p.tables e below (T8.setTop (mkF m 8 #[.val (.ref q1), .val (.int z1), .unset, .unset] [(.int (z1 - (1 : Int32))), (.int (1 : Int32))])) t ∧ _
  obtain ⟨_, _, ⟨T9, L9, k9, n9⟩, -, X9, ⟨Lc9, hQ9, l9, y9, z9⟩, st9⟩ := Jvm.LawKit.callS X8 hx (y := (⟨"java/lang/Math", "max", "(II)I"⟩ : MethodName)) hown (mvT hZ (hw _ (List.mem_of_getElem? (i := 13) rfl))) (mvT hZ (hw _ (List.mem_of_getElem? (i := 14) rfl))) (mvT hZ w_2) (mvT hZ w_15) (by decide) (backOf (W := 0) (rmMax l Z a0 hw [] (1 : Int32) ((z1 - (1 : Int32))) h0 n0 Z0 OLD) hZ w_15 w_2 (by decide) (by decide)) (g := (mkF m 8 #[.val (.ref q1), .val (.int z1), .unset, .unset] [(.int (z1 - (1 : Int32))), (.int (1 : Int32))])) rfl (by rw [hml]; rfl) (argsL := [(.int (1 : Int32)), (.int (z1 - (1 : Int32)))]) (rest := []) (lenOf pd__28II_29I rfl) rfl (by show 2 * 0 + _ ≤ _; exact Nat.le_of_eq rfl) (hb hby d2_8) (fun _ _ => ⟨rfl, e8, (by decide : 0 + 0 ≤ _), (by decide : 0 + 0 ≤ _)⟩)
  dsimp only [Pt.U, Pt.locs, Pt.cells, Pt.slots] at X9 l9 y9 z9 st9 hQ9
  rw [l9, y9, z9] at X9
  obtain ⟨r1_9, rfl, Nq9, e9, H9_0⟩ := hQ9
  have N9 := Fr.app N0 Nq9
  refine own_go st9 ?_
  show ∃ t o, Steps p.tables e below (T9.setTop (mkF m 11 #[.val (.ref q1), .val (.int z1), .unset, .unset] [(.int r1_9)])) t ∧ _
  obtain ⟨_, _, ⟨T10, L10, k10, n10⟩, -, X10, ⟨Lc10, hQ10, l10, y10, z10⟩, st10⟩ := Jvm.LawKit.callS X9 hx (y := (⟨"java/lang/Integer", "highestOneBit", "(I)I"⟩ : MethodName)) hown (mvT hZ (hw _ (List.mem_of_getElem? (i := 16) rfl))) (mvT hZ (hw _ (List.mem_of_getElem? (i := 17) rfl))) (mvT hZ w_18) (mvT hZ w_19) (by decide) (backOf (W := 0) (rmHB l Z a0 hw [] r1_9 h0 n0 Z0 OLD ((H9_0 ▸ own_17z hz) : own_17 r1_9)) hZ w_19 w_18 (by decide) (by decide)) (g := (mkF m 11 #[.val (.ref q1), .val (.int z1), .unset, .unset] [(.int r1_9)])) rfl (by rw [hml]; rfl) (argsL := [(.int r1_9)]) (rest := []) (lenOf pd__28I_29I rfl) rfl (by show 2 * 0 + _ ≤ _; exact Nat.le_of_eq rfl) (hb hby d2_11) (fun _ _ => ⟨rfl, e9, (by decide : 0 + 0 ≤ _), (by decide : 0 + 0 ≤ _)⟩)
  dsimp only [Pt.U, Pt.locs, Pt.cells, Pt.slots] at X10 l10 y10 z10 st10 hQ10
  rw [l10, y10, z10] at X10
  obtain ⟨r1_10, rfl, Nq10, e10, H10_0⟩ := hQ10
  have N10 := Fr.app N9 Nq10
  refine own_go st10 ?_
  refine own_go (fun _ => XS.iconst X10.here hx rfl (hb hby d2_14)) ?_
  refine own_go (fun _ => XS.ishl X10.here hx rfl (hb hby d2_15) rfl) ?_
  show ∃ t o, Steps p.tables e below (T10.setTop (mkF m 16 #[.val (.ref q1), .val (.int z1), .unset, .unset] [(.int (r1_10 <<< ((1 : Int32) &&& 31)))])) t ∧ _
  have hl11 := own_lv hz
  rw [← H9_0, ← H10_0] at hl11
  rcases hl11 with hk | hk | hk
  · rw [hk.1]
    refine own_go (fun _ => XS.istoreN X10.here hx rfl (hb hby d2_16) rfl (l' := #[.val (.ref q1), .val (.int z1), .val (.int (2 : Int32)), .unset]) rfl) ?_
    refine own_go (fun _ => XS.aloadN X10.here hx rfl (hb hby d2_17) rfl rfl) ?_
    refine own_go (fun _ => XS.iloadN X10.here hx rfl (hb hby d2_18) rfl) ?_
    show ∃ t o, Steps p.tables e below (T10.setTop (mkF m 19 #[.val (.ref q1), .val (.int z1), .val (.int (2 : Int32)), .unset] [(.int (2 : Int32)), (.ref q1)])) t ∧ _
    obtain ⟨T12, h12, k12, X12, e12, E12, A12, Q12, O12, st12⟩ := newRE X10 hx hZ hown w_25 w_26 e10 (g := (mkF m 19 #[.val (.ref q1), .val (.int z1), .val (.int (2 : Int32)), .unset] [(.int (2 : Int32)), (.ref q1)])) rfl (hb hby d2_19) rfl (by decide) (cap := 2) (by decide) (by decide) (by decide) (by decide) (ad := "[Lcom/example/holdback/holdback/sim/EventQueue$Stream;") rfl
    obtain ⟨b12, g12⟩ : ∃ z, z = h0.size := ⟨_, rfl⟩
    rw [← g12] at A12 Q12 st12
    refine own_go st12 ?_
    have le_12 : h0.size ≤ h12.size := E12.1
    have lt_b12 : b12 < h12.size := A12.lt
    have V_b12 : Arv Z h12 b12 k12 (.object "com/example/holdback/holdback/sim/EventQueue$Stream") (2 : Int32) [.null, .null] .null := (Arv.new A12 (by decide)).pad (pad_rep [] .null 2)
    have K12 : Keep h0 h12 [q1] := Keep.ext (Keep.refl h0 [q1]) E12
    have F13 := (Exa.ext E12 P1)
    have F14 := (Fld.ext E12 P2)
    obtain ⟨T15, h15, X15, e15, W15, st15⟩ := putF X12 hx hZ hown (host := "") (Or.inl w_27) Via.refl e12 F14 F13 (Or.inr ⟨w_28, rfl, hnm⟩) w_5 (ty := (.array (.object "com/example/holdback/holdback/sim/EventQueue$Stream"))) (by decide) rfl rfl (g := (mkF m 22 #[.val (.ref q1), .val (.int z1), .val (.int (2 : Int32)), .unset] [(.ref b12), (.ref q1)])) rfl rfl (hb hby d2_22)
    refine own_go st15 ?_
    have le_15 : h12.size ≤ h15.size := Nat.le_of_eq W15.size.symm
    have K15 : Keep h0 h15 [q1] := Keep.wr K12 W15 (Or.inl (List.mem_of_getElem? (i := 0) rfl))
    have N15 := Fr.snoc X15 N10 gq
    have Fw15 := Fld.same W15 F14
    refine own_go (fun _ => XS.aloadN X15.here hx rfl (hb hby d2_25) rfl rfl) ?_
    refine own_go (fun _ => XS.iloadN X15.here hx rfl (hb hby d2_26) rfl) ?_
    show ∃ t o, Steps p.tables e below (T15.setTop (mkF m 27 #[.val (.ref q1), .val (.int z1), .val (.int (2 : Int32)), .unset] [(.int (2 : Int32)), (.ref q1)])) t ∧ _
    obtain ⟨T16, h16, k16, X16, e16, E16, A16, st16⟩ := newP (aty := .double) X15 hx hZ w_29 e15 (g := (mkF m 27 #[.val (.ref q1), .val (.int z1), .val (.int (2 : Int32)), .unset] [(.int (2 : Int32)), (.ref q1)])) rfl (hb hby d2_27) rfl (by decide) (cap := 2) (by decide) (by decide) (by decide) (by decide)
    obtain ⟨b16, g16⟩ : ∃ z, z = h15.size := ⟨_, rfl⟩
    rw [← g16] at A16 st16
    refine own_go st16 ?_
    have le_16 : h15.size ≤ h16.size := E16.1
    have lt_b16 : b16 < h16.size := A16.lt
    have V_b16 : Arv Z h16 b16 k16 .double (2 : Int32) [(.double (0 : UInt64)), (.double (0 : UInt64))] (.double (0 : UInt64)) := (Arv.new A16 (by decide)).pad (pad_rep [] (.double (0 : UInt64)) 2)
    have K16 : Keep h0 h16 [q1] := Keep.ext K15 E16
    have F17 := (Exa.ext E16 (Exa.wr W15 F13))
    have F18 := (Fld.ext E16 (Fld.other W15 (Fld.ext E12 P3) (Or.inr (slot_ne (a0 := a0) (Or.inr w_31) (Or.inr w_28) (by decide) (t := (.array .double)) (t' := (.array (.object "com/example/holdback/holdback/sim/EventQueue$Stream"))) (by decide) (by decide)))))
    obtain ⟨T19, h19, X19, e19, W19, st19⟩ := putF X16 hx hZ hown (host := "") (Or.inl w_30) Via.refl e16 F18 F17 (Or.inr ⟨w_31, rfl, hnm⟩) w_5 (ty := (.array .double)) (by decide) rfl rfl (g := (mkF m 29 #[.val (.ref q1), .val (.int z1), .val (.int (2 : Int32)), .unset] [(.ref b16), (.ref q1)])) rfl rfl (hb hby d2_29)
    refine own_go st19 ?_
    have le_19 : h16.size ≤ h19.size := Nat.le_of_eq W19.size.symm
    have K19 : Keep h0 h19 [q1] := Keep.wr K16 W19 (Or.inl (List.mem_of_getElem? (i := 0) rfl))
    have N19 := Fr.snoc X19 N15 gq
    have Fw19 := Fld.same W19 F18
    refine own_go (fun _ => XS.aloadN X19.here hx rfl (hb hby d2_32) rfl rfl) ?_
    refine own_go (fun _ => XS.iloadN X19.here hx rfl (hb hby d2_33) rfl) ?_
    show ∃ t o, Steps p.tables e below (T19.setTop (mkF m 34 #[.val (.ref q1), .val (.int z1), .val (.int (2 : Int32)), .unset] [(.int (2 : Int32)), (.ref q1)])) t ∧ _
    obtain ⟨T20, h20, k20, X20, e20, E20, A20, st20⟩ := newP (aty := .long) X19 hx hZ w_32 e19 (g := (mkF m 34 #[.val (.ref q1), .val (.int z1), .val (.int (2 : Int32)), .unset] [(.int (2 : Int32)), (.ref q1)])) rfl (hb hby d2_34) rfl (by decide) (cap := 2) (by decide) (by decide) (by decide) (by decide)
    obtain ⟨b20, g20⟩ : ∃ z, z = h19.size := ⟨_, rfl⟩
    rw [← g20] at A20 st20
    refine own_go st20 ?_
    have le_20 : h19.size ≤ h20.size := E20.1
    have lt_b20 : b20 < h20.size := A20.lt
    have V_b20 : Arv Z h20 b20 k20 .long (2 : Int32) [(.long (0 : Int64)), (.long (0 : Int64))] (.long (0 : Int64)) := (Arv.new A20 (by decide)).pad (pad_rep [] (.long (0 : Int64)) 2)
    have K20 : Keep h0 h20 [q1] := Keep.ext K19 E20
    have F21 := (Exa.ext E20 (Exa.wr W19 F17))
    have F22 := (Fld.ext E20 (Fld.other W19 (Fld.ext E16 (Fld.other W15 (Fld.ext E12 P4) (Or.inr (slot_ne (a0 := a0) (Or.inr w_34) (Or.inr w_28) (by decide) (t := (.array .long)) (t' := (.array (.object "com/example/holdback/holdback/sim/EventQueue$Stream"))) (by decide) (by decide))))) (Or.inr (slot_ne (a0 := a0) (Or.inr w_34) (Or.inr w_31) (by decide) (t := (.array .long)) (t' := (.array .double)) (by decide) (by decide)))))
    obtain ⟨T23, h23, X23, e23, W23, st23⟩ := putF X20 hx hZ hown (host := "") (Or.inl w_33) Via.refl e20 F22 F21 (Or.inr ⟨w_34, rfl, hnm⟩) w_5 (ty := (.array .long)) (by decide) rfl rfl (g := (mkF m 36 #[.val (.ref q1), .val (.int z1), .val (.int (2 : Int32)), .unset] [(.ref b20), (.ref q1)])) rfl rfl (hb hby d2_36)
    refine own_go st23 ?_
    have le_23 : h20.size ≤ h23.size := Nat.le_of_eq W23.size.symm
    have K23 : Keep h0 h23 [q1] := Keep.wr K20 W23 (Or.inl (List.mem_of_getElem? (i := 0) rfl))
    have N23 := Fr.snoc X23 N19 gq
    have Fw23 := Fld.same W23 F22
    refine own_go (fun _ => XS.aloadN X23.here hx rfl (hb hby d2_39) rfl rfl) ?_
    refine own_go (fun _ => XS.iconst X23.here hx rfl (hb hby d2_40)) ?_
    refine own_go (fun _ => XS.iloadN X23.here hx rfl (hb hby d2_41) rfl) ?_
    refine own_go (fun _ => XS.imul X23.here hx rfl (hb hby d2_42) rfl) ?_
    show ∃ t o, Steps p.tables e below (T23.setTop (mkF m 43 #[.val (.ref q1), .val (.int z1), .val (.int (2 : Int32)), .unset] [(.int (4 : Int32)), (.ref q1)])) t ∧ _
    obtain ⟨T24, h24, k24, X24, e24, E24, A24, st24⟩ := newP (aty := .int) X23 hx hZ w_35 e23 (g := (mkF m 43 #[.val (.ref q1), .val (.int z1), .val (.int (2 : Int32)), .unset] [(.int (4 : Int32)), (.ref q1)])) rfl (hb hby d2_43) rfl (by decide) (cap := 4) (by decide) (by decide) (by decide) (by decide)
    obtain ⟨b24, g24⟩ : ∃ z, z = h23.size := ⟨_, rfl⟩
    rw [← g24] at A24 st24
    refine own_go st24 ?_
    have le_24 : h23.size ≤ h24.size := E24.1
    have lt_b24 : b24 < h24.size := A24.lt
    have V_b24 : Arv Z h24 b24 k24 .int (4 : Int32) [(.int (0 : Int32)), (.int (0 : Int32)), (.int (0 : Int32)), (.int (0 : Int32))] (.int (0 : Int32)) := (Arv.new A24 (by decide)).pad (pad_rep [] (.int (0 : Int32)) 4)
    have K24 : Keep h0 h24 [q1] := Keep.ext K23 E24
    have F25 := (Exa.ext E24 (Exa.wr W23 F21))
    have F26 := (Fld.ext E24 (Fld.other W23 (Fld.ext E20 (Fld.other W19 (Fld.ext E16 (Fld.other W15 (Fld.ext E12 P5) (Or.inr (slot_ne (a0 := a0) (Or.inr w_37) (Or.inr w_28) (by decide) (t := (.array .int)) (t' := (.array (.object "com/example/holdback/holdback/sim/EventQueue$Stream"))) (by decide) (by decide))))) (Or.inr (slot_ne (a0 := a0) (Or.inr w_37) (Or.inr w_31) (by decide) (t := (.array .int)) (t' := (.array .double)) (by decide) (by decide))))) (Or.inr (slot_ne (a0 := a0) (Or.inr w_37) (Or.inr w_34) (by decide) (t := (.array .int)) (t' := (.array .long)) (by decide) (by decide)))))
    obtain ⟨T27, h27, X27, e27, W27, st27⟩ := putF X24 hx hZ hown (host := "") (Or.inl w_36) Via.refl e24 F26 F25 (Or.inr ⟨w_37, rfl, hnm⟩) w_5 (ty := (.array .int)) (by decide) rfl rfl (g := (mkF m 45 #[.val (.ref q1), .val (.int z1), .val (.int (2 : Int32)), .unset] [(.ref b24), (.ref q1)])) rfl rfl (hb hby d2_45)
    refine own_go st27 ?_
    have le_27 : h24.size ≤ h27.size := Nat.le_of_eq W27.size.symm
    have K27 : Keep h0 h27 [q1] := Keep.wr K24 W27 (Or.inl (List.mem_of_getElem? (i := 0) rfl))
    have N27 := Fr.snoc X27 N23 gq
    have Fw27 := Fld.same W27 F26
    refine own_go (fun _ => XS.iconst X27.here hx rfl (hb hby d2_48)) ?_
    refine own_go (fun _ => XS.istoreN X27.here hx rfl (hb hby d2_49) rfl (l' := #[.val (.ref q1), .val (.int z1), .val (.int (2 : Int32)), .val (.int (0 : Int32))]) rfl) ?_
    refine own_go (fun _ => XS.iloadN X27.here hx rfl (hb hby d2_50) rfl) ?_
    refine own_go (fun _ => XS.iloadN X27.here hx rfl (hb hby d2_51) rfl) ?_
    show ∃ t o, Steps p.tables e below (T27.setTop (mkF m 52 #[.val (.ref q1), .val (.int z1), .val (.int (2 : Int32)), .val (.int (0 : Int32))] [(.int (2 : Int32)), (.int (0 : Int32))])) t ∧ _
    refine own_go (fun _ => XS.icmpNo X27.here hx rfl (hb hby d2_52) rfl (tlt (by decide : (0 : Int32) < (2 : Int32))).2.1) ?_
    refine own_go (fun _ => XS.aloadN X27.here hx rfl (hb hby d2_55) rfl rfl) ?_
    have F28 := (Fld.other W27 (Fld.ext E24 (Fld.other W23 (Fld.ext E20 (Fld.other W19 (Fld.ext E16 Fw15) (Or.inr (slot_ne (a0 := a0) (Or.inr w_28) (Or.inr w_31) (by decide) (t := (.array (.object "com/example/holdback/holdback/sim/EventQueue$Stream"))) (t' := (.array .double)) (by decide) (by decide))))) (Or.inr (slot_ne (a0 := a0) (Or.inr w_28) (Or.inr w_34) (by decide) (t := (.array (.object "com/example/holdback/holdback/sim/EventQueue$Stream"))) (t' := (.array .long)) (by decide) (by decide))))) (Or.inr (slot_ne (a0 := a0) (Or.inr w_28) (Or.inr w_37) (by decide) (t := (.array (.object "com/example/holdback/holdback/sim/EventQueue$Stream"))) (t' := (.array .int)) (by decide) (by decide))))
    obtain ⟨T29, X29, e29, st29⟩ := getF X27 hx hZ hown (host := "") (Or.inl w_27) Via.refl e27 F28 (g := (mkF m 56 #[.val (.ref q1), .val (.int z1), .val (.int (2 : Int32)), .val (.int (0 : Int32))] [(.ref q1)])) rfl rfl (hb hby d2_56)
    refine own_go st29 ?_
    refine own_go (fun _ => XS.iloadN X29.here hx rfl (hb hby d2_59) rfl) ?_
    show ∃ t o, Steps p.tables e below (T29.setTop (mkF m 60 #[.val (.ref q1), .val (.int z1), .val (.int (2 : Int32)), .val (.int (0 : Int32))] [(.int (0 : Int32)), (.ref b12)])) t ∧ _
    obtain ⟨T30, h30, X30, e30, E30, A30, D30, -, st30⟩ := newO X29 hx hZ hown w_25 w_38 w_39 e29 (g := (mkF m 60 #[.val (.ref q1), .val (.int z1), .val (.int (2 : Int32)), .val (.int (0 : Int32))] [(.int (0 : Int32)), (.ref b12)])) rfl (hb hby d2_60) (by decide) (by decide)
    obtain ⟨b30, g30⟩ : ∃ z, z = h27.size := ⟨_, rfl⟩
    rw [← g30] at A30 D30 st30
    refine own_go st30 ?_
    have le_30 : h27.size ≤ h30.size := E30.1
    have lt_b30 : b30 < h30.size := A30.lt
    have F_moments_b30 : Fld Z h30 b30 "com/example/holdback/holdback/sim/EventQueue$Stream" "moments" "[D" .null := D30 (Or.inl w_45) (ty := (.array .double)) (by decide)
    have F_places_b30 : Fld Z h30 b30 "com/example/holdback/holdback/sim/EventQueue$Stream" "places" "[J" .null := D30 (Or.inl w_47) (ty := (.array .long)) (by decide)
    have F_actions_b30 : Fld Z h30 b30 "com/example/holdback/holdback/sim/EventQueue$Stream" "actions" "[Ljava/lang/Runnable;" .null := D30 (Or.inl w_51) (ty := (.array (.object "java/lang/Runnable"))) (by decide)
    have F_lastAt_b30 : Fld Z h30 b30 "com/example/holdback/holdback/sim/EventQueue$Stream" "lastAt" "D" (defaultValue .double) := D30 (Or.inl w_85) (ty := .double) (by decide)
    have F_size_b30 : Fld Z h30 b30 "com/example/holdback/holdback/sim/EventQueue$Stream" "size" "I" (.int (0 : Int32)) := D30 (Or.inl w_94) (ty := .int) (by decide)
    have F_first_b30 : Fld Z h30 b30 "com/example/holdback/holdback/sim/EventQueue$Stream" "first" "I" (.int (0 : Int32)) := D30 (Or.inl w_96) (ty := .int) (by decide)
    have K30 : Keep h0 h30 [q1] := Keep.ext K27 E30
    refine own_go (fun _ => XS.dup X30.here hx rfl (hb hby d2_63) rfl rfl) ?_
    show ∃ t o, Steps p.tables e below (T30.setTop (mkF m 64 #[.val (.ref q1), .val (.int z1), .val (.int (2 : Int32)), .val (.int (0 : Int32))] [(.ref b30), (.ref b30), (.int (0 : Int32)), (.ref b12)])) t ∧ _
    have F31 := ((Old.wr ((Old.wr ((Old.wr ((Old.wr (OLD.ext E12) W15 gq).ext E16) W19 gq).ext E20) W23 gq).ext E24) W27 gq).ext E30)
    have ge32 : n0 ≤ b30 := by omega
    have zl33 : n0 ≤ h30.size := by omega
    obtain ⟨_, _, ⟨T34, L34, k34, n34⟩, -, X34, ⟨Lc34, hQ34, l34, y34, z34⟩, st34⟩ := own_specR X30 hx hZ (y := (⟨"com/example/holdback/holdback/sim/EventQueue$Stream", "<init>", "()V"⟩ : MethodName)) rfl hown w_40 w_41 w_42 (by decide) (backOf (W := 3) (rmSI l Z a0 hw [] b30 h30 n0 zl33 A30 F_moments_b30 F_places_b30 F_actions_b30 F_first_b30 F_size_b30 F_lastAt_b30 F31 ge32) hZ w_42 w_39 (by decide) (by decide)) (g := (mkF m 64 #[.val (.ref q1), .val (.int z1), .val (.int (2 : Int32)), .val (.int (0 : Int32))] [(.ref b30), (.ref b30), (.int (0 : Int32)), (.ref b12)])) rfl (by rw [hml]; rfl) (Steps.refl _) (a := b30) (argsL := []) (rest := [(.ref b30), (.int (0 : Int32)), (.ref b12)]) (lenOf pd__28_29V rfl) rfl (by show 2 * 0 + _ ≤ _; exact Nat.le_of_eq rfl) (hb hby d2_64) (fun _ _ => ⟨rfl, e30, (by decide : 5 + 3 ≤ _), (by decide : 16 + 24 ≤ _)⟩)
    dsimp only [Pt.U, Pt.locs, Pt.cells, Pt.slots] at X34 l34 y34 z34 st34 hQ34
    rw [l34, y34, z34] at X34
    obtain ⟨am_34, ap_34, ac_34, km_34, kp_34, kc_34, rfl, Nq34, Kp34, G34_0, G34_1, G34_2, G34_3, G34_4, G34_5, G34_6, G34_7, G34_8, H34_0, H34_1, H34_2⟩ := hQ34
    have N34 := Fr.app N27 Nq34
    refine own_goT st34 ?_
    have le_34 : h30.size ≤ T34.heap.size := Kp34.1
    have sz35 : h0.size ≤ b30 := by omega
    have K34 : Keep h0 T34.heap [q1] := Keep.trans K30 Kp34 (allS (Or.inr sz35) all0)
    have lt_am_34 : am_34 < T34.heap.size := (G34_6).lt
    have lt_ap_34 : ap_34 < T34.heap.size := (G34_7).lt
    have lt_ac_34 : ac_34 < T34.heap.size := (G34_8).lt
    have lt36 : (b30 : Nat) < am_34 := by omega
    have F38 := (Exa.keep A30 Kp34)
    have cs37 : own_S Z T34.heap b30 (ac_34 + 1) 0 0 := ⟨am_34, ap_34, ac_34, _, _, _, _, _, _, (0 : Int32), (0 : Int32), (0 : Int32), lt36, H34_1, H34_2, Nat.lt_succ_self _, F38, G34_0, G34_1, G34_2, G34_3, G34_4, own_la G34_5, G34_6, G34_7, G34_8, own_gm, own_gp, own_gc, ⟨by decide, by decide⟩, ⟨by decide, by decide⟩, by decide⟩
    have ne39 : b12 ≠ q1 := own_ne (by omega)
    have ne40 : b12 ≠ b30 := own_ne (by omega)
    have F41 := (Arv.keep ((Arv.other ((Arv.other ((Arv.other ((Arv.other V_b12 W15 ne39).ext E16) W19 ne39).ext E20) W23 ne39).ext E24) W27 ne39).ext E30) Kp34 (ninS ne40 nin0))
    obtain ⟨cl42, Ar42, q42, S42, N42, H42, G42⟩ := id F41
    have hin42 : ¬ ((0 : Int32) < 0 ∨ cl42.slots.size ≤ ((0 : Int32)).toNatClampNeg) := inb_of S42 ⟨by decide, by decide⟩
    obtain ⟨T43, h43, X43, e43, W43, st43⟩ := stR X34 hx hZ rfl Ar42 (j := (0 : Int32)) hin42 rfl (Sto.ofV Ar42 q42 O12 (Ins.self F38)) (g := (mkF m 67 #[.val (.ref q1), .val (.int z1), .val (.int (2 : Int32)), .val (.int (0 : Int32))] [(.ref b30), (.int (0 : Int32)), (.ref b12)])) rfl rfl (hb hby d2_67)
    refine own_go st43 ?_
    have ge44 : n0 ≤ b12 := by omega
    have le_43 : T34.heap.size ≤ h43.size := Nat.le_of_eq W43.size.symm
    have sz45 : h0.size ≤ b12 := by omega
    have K43 : Keep h0 h43 [q1] := Keep.wr K34 W43 (Or.inr sz45)
    have N43 := Fr.snoc X43 N34 ge44
    have V43 : Arv Z h43 b12 k12 (.object "com/example/holdback/holdback/sim/EventQueue$Stream") (2 : Int32) [(.ref b30), .null] .null := Arv.set Ar42 q42 S42 N42 H42 G42 rfl W43 0 rfl (Nat.le_of_ble_eq_true rfl)
    refine own_go (fun _ => XS.aloadN X43.here hx rfl (hb hby d2_68) rfl rfl) ?_
    have ne46 : q1 ≠ b30 := own_ne (by omega)
    have ne47 : q1 ≠ b12 := own_ne (by omega)
    have F48 := (Fld.other W43 (Fld.keep (Fld.ext E30 (Fld.other W27 (Fld.ext E24 (Fld.other W23 (Fld.ext E20 Fw19) (Or.inr (slot_ne (a0 := a0) (Or.inr w_31) (Or.inr w_34) (by decide) (t := (.array .double)) (t' := (.array .long)) (by decide) (by decide))))) (Or.inr (slot_ne (a0 := a0) (Or.inr w_31) (Or.inr w_37) (by decide) (t := (.array .double)) (t' := (.array .int)) (by decide) (by decide))))) Kp34 (ninS ne46 nin0)) (Or.inl ne47))
    obtain ⟨T49, X49, e49, st49⟩ := getF X43 hx hZ hown (host := "") (Or.inl w_30) Via.refl e43 F48 (g := (mkF m 69 #[.val (.ref q1), .val (.int z1), .val (.int (2 : Int32)), .val (.int (0 : Int32))] [(.ref q1)])) rfl rfl (hb hby d2_69)
    refine own_go st49 ?_
    refine own_go (fun _ => XS.iloadN X49.here hx rfl (hb hby d2_72) rfl) ?_
    refine own_go (fun _ => X49.ldc2DoubleC hx hown (mvT hZ w_53) (g := (mkF m 73 #[.val (.ref q1), .val (.int z1), .val (.int (2 : Int32)), .val (.int (0 : Int32))] [(.int (0 : Int32)), (.ref b16)])) rfl (hb hby d2_73) _) ?_
    have ne50 : b16 ≠ q1 := own_ne (by omega)
    have ne51 : b16 ≠ b30 := own_ne (by omega)
    have ne52 : b16 ≠ b12 := own_ne (by omega)
    have F53 := (Arv.other (Arv.keep ((Arv.other ((Arv.other ((Arv.other V_b16 W19 ne50).ext E20) W23 ne50).ext E24) W27 ne50).ext E30) Kp34 (ninS ne51 nin0)) W43 ne52)
    obtain ⟨cl54, Ar54, q54, S54, N54, H54, G54⟩ := id F53
    have hin54 : ¬ ((0 : Int32) < 0 ∨ cl54.slots.size ≤ ((0 : Int32)).toNatClampNeg) := inb_of S54 ⟨by decide, by decide⟩
    obtain ⟨T55, h55, X55, e55, W55, st55⟩ := stD X49 hx hZ e49 Ar54 (j := (0 : Int32)) hin54 (g := (mkF m 76 #[.val (.ref q1), .val (.int z1), .val (.int (2 : Int32)), .val (.int (0 : Int32))] [(.double (9218868437227405312 : UInt64)), (.int (0 : Int32)), (.ref b16)])) rfl rfl (hb hby d2_76)
    refine own_go st55 ?_
    have ge56 : n0 ≤ b16 := by omega
    have le_55 : h43.size ≤ h55.size := Nat.le_of_eq W55.size.symm
    have sz57 : h0.size ≤ b16 := by omega
    have K55 : Keep h0 h55 [q1] := Keep.wr K43 W55 (Or.inr sz57)
    have N55 := Fr.snoc X55 N43 ge56
    have V55 : Arv Z h55 b16 k16 .double (2 : Int32) [(.double (9218868437227405312 : UInt64)), (.double (0 : UInt64))] (.double (0 : UInt64)) := Arv.set Ar54 q54 S54 N54 H54 G54 rfl W55 0 rfl (Nat.le_of_ble_eq_true rfl)
    refine own_go (fun _ => XS.aloadN X55.here hx rfl (hb hby d2_77) rfl rfl) ?_
    show ∃ t o, Steps p.tables e below (T55.setTop (mkF m 78 #[.val (.ref q1), .val (.int z1), .val (.int (2 : Int32)), .val (.int (0 : Int32))] [(.ref q1)])) t ∧ _
    have ne58 : q1 ≠ b16 := own_ne (by omega)
    have F59 := (Fld.other W55 (Fld.other W43 (Fld.keep (Fld.ext E30 (Fld.other W27 (Fld.ext E24 Fw23) (Or.inr (slot_ne (a0 := a0) (Or.inr w_34) (Or.inr w_37) (by decide) (t := (.array .long)) (t' := (.array .int)) (by decide) (by decide))))) Kp34 (ninS ne46 nin0)) (Or.inl ne47)) (Or.inl ne58))
    obtain ⟨T60, X60, e60, st60⟩ := getF X55 hx hZ hown (host := "") (Or.inl w_33) Via.refl e55 F59 (g := (mkF m 78 #[.val (.ref q1), .val (.int z1), .val (.int (2 : Int32)), .val (.int (0 : Int32))] [(.ref q1)])) rfl rfl (hb hby d2_78)
    refine own_go st60 ?_
    refine own_go (fun _ => XS.iloadN X60.here hx rfl (hb hby d2_81) rfl) ?_
    refine own_go (fun _ => X60.ldc2Long hx hown (mvT hZ w_54) (g := (mkF m 82 #[.val (.ref q1), .val (.int z1), .val (.int (2 : Int32)), .val (.int (0 : Int32))] [(.int (0 : Int32)), (.ref b20)])) rfl (hb hby d2_82) _) ?_
    have ne61 : b20 ≠ q1 := own_ne (by omega)
    have ne62 : b20 ≠ b30 := own_ne (by omega)
    have ne63 : b20 ≠ b12 := own_ne (by omega)
    have ne64 : b20 ≠ b16 := own_ne (by omega)
    have F65 := (Arv.other (Arv.other (Arv.keep ((Arv.other ((Arv.other V_b20 W23 ne61).ext E24) W27 ne61).ext E30) Kp34 (ninS ne62 nin0)) W43 ne63) W55 ne64)
    obtain ⟨cl66, Ar66, q66, S66, N66, H66, G66⟩ := id F65
    have hin66 : ¬ ((0 : Int32) < 0 ∨ cl66.slots.size ≤ ((0 : Int32)).toNatClampNeg) := inb_of S66 ⟨by decide, by decide⟩
    obtain ⟨T67, h67, X67, e67, W67, st67⟩ := stJ X60 hx hZ e60 Ar66 (j := (0 : Int32)) hin66 (g := (mkF m 85 #[.val (.ref q1), .val (.int z1), .val (.int (2 : Int32)), .val (.int (0 : Int32))] [(.long (9223372036854775807 : Int64)), (.int (0 : Int32)), (.ref b20)])) rfl rfl (hb hby d2_85)
    refine own_go st67 ?_
    have ge68 : n0 ≤ b20 := by omega
    have le_67 : h55.size ≤ h67.size := Nat.le_of_eq W67.size.symm
    have sz69 : h0.size ≤ b20 := by omega
    have K67 : Keep h0 h67 [q1] := Keep.wr K55 W67 (Or.inr sz69)
    have N67 := Fr.snoc X67 N55 ge68
    have V67 : Arv Z h67 b20 k20 .long (2 : Int32) [(.long (9223372036854775807 : Int64)), (.long (0 : Int64))] (.long (0 : Int64)) := Arv.set Ar66 q66 S66 N66 H66 G66 rfl W67 0 rfl (Nat.le_of_ble_eq_true rfl)
    refine own_go (fun _ => XS.aloadN X67.here hx rfl (hb hby d2_86) rfl rfl) ?_
    have ne70 : q1 ≠ b20 := own_ne (by omega)
    have F71 := (Fld.other W67 (Fld.other W55 (Fld.other W43 (Fld.keep (Fld.ext E30 Fw27) Kp34 (ninS ne46 nin0)) (Or.inl ne47)) (Or.inl ne58)) (Or.inl ne70))
    obtain ⟨T72, X72, e72, st72⟩ := getF X67 hx hZ hown (host := "") (Or.inl w_36) Via.refl e67 F71 (g := (mkF m 87 #[.val (.ref q1), .val (.int z1), .val (.int (2 : Int32)), .val (.int (0 : Int32))] [(.ref q1)])) rfl rfl (hb hby d2_87)
    refine own_go st72 ?_
    refine own_go (fun _ => XS.iloadN X72.here hx rfl (hb hby d2_90) rfl) ?_
    refine own_go (fun _ => XS.iloadN X72.here hx rfl (hb hby d2_91) rfl) ?_
    show ∃ t o, Steps p.tables e below (T72.setTop (mkF m 92 #[.val (.ref q1), .val (.int z1), .val (.int (2 : Int32)), .val (.int (0 : Int32))] [(.int (0 : Int32)), (.int (2 : Int32)), (.ref b24)])) t ∧ _
    refine own_go (fun _ => XS.iadd X72.here hx rfl (hb hby d2_92) rfl) ?_
    refine own_go (fun _ => XS.iloadN X72.here hx rfl (hb hby d2_93) rfl) ?_
    have ne73 : b24 ≠ q1 := own_ne (by omega)
    have ne74 : b24 ≠ b30 := own_ne (by omega)
    have ne75 : b24 ≠ b12 := own_ne (by omega)
    have ne76 : b24 ≠ b16 := own_ne (by omega)
    have ne77 : b24 ≠ b20 := own_ne (by omega)
    have F78 := (Arv.other (Arv.other (Arv.other (Arv.keep ((Arv.other V_b24 W27 ne73).ext E30) Kp34 (ninS ne74 nin0)) W43 ne75) W55 ne76) W67 ne77)
    obtain ⟨cl79, Ar79, q79, S79, N79, H79, G79⟩ := id F78
    have hin79 : ¬ ((2 : Int32) < 0 ∨ cl79.slots.size ≤ ((2 : Int32)).toNatClampNeg) := inb_of S79 ⟨by decide, by decide⟩
    obtain ⟨T80, h80, X80, e80, W80, st80⟩ := stI X72 hx hZ e72 Ar79 (j := (2 : Int32)) hin79 (g := (mkF m 94 #[.val (.ref q1), .val (.int z1), .val (.int (2 : Int32)), .val (.int (0 : Int32))] [(.int (0 : Int32)), (.int (2 : Int32)), (.ref b24)])) rfl rfl (hb hby d2_94)
    refine own_go st80 ?_
    have ge81 : n0 ≤ b24 := by omega
    have le_80 : h67.size ≤ h80.size := Nat.le_of_eq W80.size.symm
    have sz82 : h0.size ≤ b24 := by omega
    have K80 : Keep h0 h80 [q1] := Keep.wr K67 W80 (Or.inr sz82)
    have N80 := Fr.snoc X80 N67 ge81
    have V80 : Arv Z h80 b24 k24 .int (4 : Int32) [(.int (0 : Int32)), (.int (0 : Int32)), (.int (0 : Int32)), (.int (0 : Int32))] (.int (0 : Int32)) := Arv.set Ar79 q79 S79 N79 H79 G79 rfl W80 2 rfl (Nat.le_of_ble_eq_true rfl)
    refine own_go (fun _ => XS.iinc X80.here hx rfl (hb hby d2_95) rfl (l' := #[.val (.ref q1), .val (.int z1), .val (.int (2 : Int32)), .val (.int (1 : Int32))]) rfl) ?_
    refine own_go (fun _ => XS.goto X80.here hx rfl (pc0 := 98) (pc' := 50) rfl (hb hby d2_98) (by decide) (by decide)) ?_
    refine own_go (fun _ => XS.iloadN X80.here hx rfl (hb hby d2_50) rfl) ?_
    refine own_go (fun _ => XS.iloadN X80.here hx rfl (hb hby d2_51) rfl) ?_
    show ∃ t o, Steps p.tables e below (T80.setTop (mkF m 52 #[.val (.ref q1), .val (.int z1), .val (.int (2 : Int32)), .val (.int (1 : Int32))] [(.int (2 : Int32)), (.int (1 : Int32))])) t ∧ _
    refine own_go (fun _ => XS.icmpNo X80.here hx rfl (hb hby d2_52) rfl (tlt (by decide : (1 : Int32) < (2 : Int32))).2.1) ?_
    refine own_go (fun _ => XS.aloadN X80.here hx rfl (hb hby d2_55) rfl rfl) ?_
    have ne83 : q1 ≠ b24 := own_ne (by omega)
    have F84 := (Fld.other W80 (Fld.other W67 (Fld.other W55 (Fld.other W43 (Fld.keep (Fld.ext E30 F28) Kp34 (ninS ne46 nin0)) (Or.inl ne47)) (Or.inl ne58)) (Or.inl ne70)) (Or.inl ne83))
    obtain ⟨T85, X85, e85, st85⟩ := getF X80 hx hZ hown (host := "") (Or.inl w_27) Via.refl e80 F84 (g := (mkF m 56 #[.val (.ref q1), .val (.int z1), .val (.int (2 : Int32)), .val (.int (1 : Int32))] [(.ref q1)])) rfl rfl (hb hby d2_56)
    refine own_go st85 ?_
    refine own_go (fun _ => XS.iloadN X85.here hx rfl (hb hby d2_59) rfl) ?_
    show ∃ t o, Steps p.tables e below (T85.setTop (mkF m 60 #[.val (.ref q1), .val (.int z1), .val (.int (2 : Int32)), .val (.int (1 : Int32))] [(.int (1 : Int32)), (.ref b12)])) t ∧ _
    obtain ⟨T86, h86, X86, e86, E86, A86, D86, -, st86⟩ := newO X85 hx hZ hown w_25 w_38 w_39 e85 (g := (mkF m 60 #[.val (.ref q1), .val (.int z1), .val (.int (2 : Int32)), .val (.int (1 : Int32))] [(.int (1 : Int32)), (.ref b12)])) rfl (hb hby d2_60) (by decide) (by decide)
    obtain ⟨b86, g86⟩ : ∃ z, z = h80.size := ⟨_, rfl⟩
    rw [← g86] at A86 D86 st86
    refine own_go st86 ?_
    have le_86 : h80.size ≤ h86.size := E86.1
    have lt_b86 : b86 < h86.size := A86.lt
    have F_moments_b86 : Fld Z h86 b86 "com/example/holdback/holdback/sim/EventQueue$Stream" "moments" "[D" .null := D86 (Or.inl w_45) (ty := (.array .double)) (by decide)
    have F_places_b86 : Fld Z h86 b86 "com/example/holdback/holdback/sim/EventQueue$Stream" "places" "[J" .null := D86 (Or.inl w_47) (ty := (.array .long)) (by decide)
    have F_actions_b86 : Fld Z h86 b86 "com/example/holdback/holdback/sim/EventQueue$Stream" "actions" "[Ljava/lang/Runnable;" .null := D86 (Or.inl w_51) (ty := (.array (.object "java/lang/Runnable"))) (by decide)
    have F_lastAt_b86 : Fld Z h86 b86 "com/example/holdback/holdback/sim/EventQueue$Stream" "lastAt" "D" (defaultValue .double) := D86 (Or.inl w_85) (ty := .double) (by decide)
    have F_size_b86 : Fld Z h86 b86 "com/example/holdback/holdback/sim/EventQueue$Stream" "size" "I" (.int (0 : Int32)) := D86 (Or.inl w_94) (ty := .int) (by decide)
    have F_first_b86 : Fld Z h86 b86 "com/example/holdback/holdback/sim/EventQueue$Stream" "first" "I" (.int (0 : Int32)) := D86 (Or.inl w_96) (ty := .int) (by decide)
    have K86 : Keep h0 h86 [q1] := Keep.ext K80 E86
    have lt87 : (ac_34 : Nat) < b86 := by omega
    refine own_go (fun _ => XS.dup X86.here hx rfl (hb hby d2_63) rfl rfl) ?_
    show ∃ t o, Steps p.tables e below (T86.setTop (mkF m 64 #[.val (.ref q1), .val (.int z1), .val (.int (2 : Int32)), .val (.int (1 : Int32))] [(.ref b86), (.ref b86), (.int (1 : Int32)), (.ref b12)])) t ∧ _
    have F88 := ((Old.wr (Old.wr (Old.wr (Old.wr (Old.keep F31 Kp34 (allS ge32 all0)) W43 ge44) W55 ge56) W67 ge68) W80 ge81).ext E86)
    have ge89 : n0 ≤ b86 := by omega
    have zl90 : n0 ≤ h86.size := by omega
    obtain ⟨_, _, ⟨T91, L91, k91, n91⟩, -, X91, ⟨Lc91, hQ91, l91, y91, z91⟩, st91⟩ := own_specR X86 hx hZ (y := (⟨"com/example/holdback/holdback/sim/EventQueue$Stream", "<init>", "()V"⟩ : MethodName)) rfl hown w_40 w_41 w_42 (by decide) (backOf (W := 3) (rmSI l Z a0 hw [] b86 h86 n0 zl90 A86 F_moments_b86 F_places_b86 F_actions_b86 F_first_b86 F_size_b86 F_lastAt_b86 F88 ge89) hZ w_42 w_39 (by decide) (by decide)) (g := (mkF m 64 #[.val (.ref q1), .val (.int z1), .val (.int (2 : Int32)), .val (.int (1 : Int32))] [(.ref b86), (.ref b86), (.int (1 : Int32)), (.ref b12)])) rfl (by rw [hml]; rfl) (Steps.refl _) (a := b86) (argsL := []) (rest := [(.ref b86), (.int (1 : Int32)), (.ref b12)]) (lenOf pd__28_29V rfl) rfl (by show 2 * 0 + _ ≤ _; exact Nat.le_of_eq rfl) (hb hby d2_64) (fun _ _ => ⟨rfl, e86, (by decide : 9 + 3 ≤ _), (by decide : 46 + 24 ≤ _)⟩)
    dsimp only [Pt.U, Pt.locs, Pt.cells, Pt.slots] at X91 l91 y91 z91 st91 hQ91
    rw [l91, y91, z91] at X91
    obtain ⟨am_91, ap_91, ac_91, km_91, kp_91, kc_91, rfl, Nq91, Kp91, G91_0, G91_1, G91_2, G91_3, G91_4, G91_5, G91_6, G91_7, G91_8, H91_0, H91_1, H91_2⟩ := hQ91
    have N91 := Fr.app N80 Nq91
    refine own_goT st91 ?_
    have le_91 : h86.size ≤ T91.heap.size := Kp91.1
    have sz92 : h0.size ≤ b86 := by omega
    have K91 : Keep h0 T91.heap [q1] := Keep.trans K86 Kp91 (allS (Or.inr sz92) all0)
    have lt_am_91 : am_91 < T91.heap.size := (G91_6).lt
    have lt_ap_91 : ap_91 < T91.heap.size := (G91_7).lt
    have lt_ac_91 : ac_91 < T91.heap.size := (G91_8).lt
    have lt93 : (b86 : Nat) < am_91 := by omega
    have F95 := (Exa.keep A86 Kp91)
    have cs94 : own_S Z T91.heap b86 (ac_91 + 1) 0 0 := ⟨am_91, ap_91, ac_91, _, _, _, _, _, _, (0 : Int32), (0 : Int32), (0 : Int32), lt93, H91_1, H91_2, Nat.lt_succ_self _, F95, G91_0, G91_1, G91_2, G91_3, G91_4, own_la G91_5, G91_6, G91_7, G91_8, own_gm, own_gp, own_gc, ⟨by decide, by decide⟩, ⟨by decide, by decide⟩, by decide⟩
    have ne96 : b12 ≠ b16 := own_ne (by omega)
    have ne97 : b12 ≠ b20 := own_ne (by omega)
    have ne98 : b12 ≠ b24 := own_ne (by omega)
    have ne99 : b12 ≠ b86 := own_ne (by omega)
    have F100 := (Arv.keep ((Arv.other (Arv.other (Arv.other V43 W55 ne96) W67 ne97) W80 ne98).ext E86) Kp91 (ninS ne99 nin0))
    obtain ⟨cl101, Ar101, q101, S101, N101, H101, G101⟩ := id F100
    have hin101 : ¬ ((1 : Int32) < 0 ∨ cl101.slots.size ≤ ((1 : Int32)).toNatClampNeg) := inb_of S101 ⟨by decide, by decide⟩
    obtain ⟨T102, h102, X102, e102, W102, st102⟩ := stR X91 hx hZ rfl Ar101 (j := (1 : Int32)) hin101 rfl (Sto.ofV Ar101 q101 O12 (Ins.self F95)) (g := (mkF m 67 #[.val (.ref q1), .val (.int z1), .val (.int (2 : Int32)), .val (.int (1 : Int32))] [(.ref b86), (.int (1 : Int32)), (.ref b12)])) rfl rfl (hb hby d2_67)
    refine own_go st102 ?_
    have le_102 : T91.heap.size ≤ h102.size := Nat.le_of_eq W102.size.symm
    have K102 : Keep h0 h102 [q1] := Keep.wr K91 W102 (Or.inr sz45)
    have N102 := Fr.snoc X102 N91 ge44
    have V102 : Arv Z h102 b12 k12 (.object "com/example/holdback/holdback/sim/EventQueue$Stream") (2 : Int32) [(.ref b30), (.ref b86)] .null := Arv.set Ar101 q101 S101 N101 H101 G101 rfl W102 1 rfl (Nat.le_of_ble_eq_true rfl)
    refine own_go (fun _ => XS.aloadN X102.here hx rfl (hb hby d2_68) rfl rfl) ?_
    have ne103 : q1 ≠ b86 := own_ne (by omega)
    have F104 := (Fld.other W102 (Fld.keep (Fld.ext E86 (Fld.other W80 (Fld.other W67 (Fld.other W55 F48 (Or.inl ne58)) (Or.inl ne70)) (Or.inl ne83))) Kp91 (ninS ne103 nin0)) (Or.inl ne47))
    obtain ⟨T105, X105, e105, st105⟩ := getF X102 hx hZ hown (host := "") (Or.inl w_30) Via.refl e102 F104 (g := (mkF m 69 #[.val (.ref q1), .val (.int z1), .val (.int (2 : Int32)), .val (.int (1 : Int32))] [(.ref q1)])) rfl rfl (hb hby d2_69)
    refine own_go st105 ?_
    refine own_go (fun _ => XS.iloadN X105.here hx rfl (hb hby d2_72) rfl) ?_
    refine own_go (fun _ => X105.ldc2DoubleC hx hown (mvT hZ w_53) (g := (mkF m 73 #[.val (.ref q1), .val (.int z1), .val (.int (2 : Int32)), .val (.int (1 : Int32))] [(.int (1 : Int32)), (.ref b16)])) rfl (hb hby d2_73) _) ?_
    have ne106 : b16 ≠ b20 := own_ne (by omega)
    have ne107 : b16 ≠ b24 := own_ne (by omega)
    have ne108 : b16 ≠ b86 := own_ne (by omega)
    have F109 := (Arv.other (Arv.keep ((Arv.other (Arv.other V55 W67 ne106) W80 ne107).ext E86) Kp91 (ninS ne108 nin0)) W102 ne52)
    obtain ⟨cl110, Ar110, q110, S110, N110, H110, G110⟩ := id F109
    have hin110 : ¬ ((1 : Int32) < 0 ∨ cl110.slots.size ≤ ((1 : Int32)).toNatClampNeg) := inb_of S110 ⟨by decide, by decide⟩
    obtain ⟨T111, h111, X111, e111, W111, st111⟩ := stD X105 hx hZ e105 Ar110 (j := (1 : Int32)) hin110 (g := (mkF m 76 #[.val (.ref q1), .val (.int z1), .val (.int (2 : Int32)), .val (.int (1 : Int32))] [(.double (9218868437227405312 : UInt64)), (.int (1 : Int32)), (.ref b16)])) rfl rfl (hb hby d2_76)
    refine own_go st111 ?_
    have le_111 : h102.size ≤ h111.size := Nat.le_of_eq W111.size.symm
    have K111 : Keep h0 h111 [q1] := Keep.wr K102 W111 (Or.inr sz57)
    have N111 := Fr.snoc X111 N102 ge56
    have V111 : Arv Z h111 b16 k16 .double (2 : Int32) [(.double (9218868437227405312 : UInt64)), (.double (9218868437227405312 : UInt64))] (.double (0 : UInt64)) := Arv.set Ar110 q110 S110 N110 H110 G110 rfl W111 1 rfl (Nat.le_of_ble_eq_true rfl)
    refine own_go (fun _ => XS.aloadN X111.here hx rfl (hb hby d2_77) rfl rfl) ?_
    show ∃ t o, Steps p.tables e below (T111.setTop (mkF m 78 #[.val (.ref q1), .val (.int z1), .val (.int (2 : Int32)), .val (.int (1 : Int32))] [(.ref q1)])) t ∧ _
    have F112 := (Fld.other W111 (Fld.other W102 (Fld.keep (Fld.ext E86 (Fld.other W80 (Fld.other W67 F59 (Or.inl ne70)) (Or.inl ne83))) Kp91 (ninS ne103 nin0)) (Or.inl ne47)) (Or.inl ne58))
    obtain ⟨T113, X113, e113, st113⟩ := getF X111 hx hZ hown (host := "") (Or.inl w_33) Via.refl e111 F112 (g := (mkF m 78 #[.val (.ref q1), .val (.int z1), .val (.int (2 : Int32)), .val (.int (1 : Int32))] [(.ref q1)])) rfl rfl (hb hby d2_78)
    refine own_go st113 ?_
    refine own_go (fun _ => XS.iloadN X113.here hx rfl (hb hby d2_81) rfl) ?_
    refine own_go (fun _ => X113.ldc2Long hx hown (mvT hZ w_54) (g := (mkF m 82 #[.val (.ref q1), .val (.int z1), .val (.int (2 : Int32)), .val (.int (1 : Int32))] [(.int (1 : Int32)), (.ref b20)])) rfl (hb hby d2_82) _) ?_
    have ne114 : b20 ≠ b24 := own_ne (by omega)
    have ne115 : b20 ≠ b86 := own_ne (by omega)
    have F116 := (Arv.other (Arv.other (Arv.keep ((Arv.other V67 W80 ne114).ext E86) Kp91 (ninS ne115 nin0)) W102 ne63) W111 ne64)
    obtain ⟨cl117, Ar117, q117, S117, N117, H117, G117⟩ := id F116
    have hin117 : ¬ ((1 : Int32) < 0 ∨ cl117.slots.size ≤ ((1 : Int32)).toNatClampNeg) := inb_of S117 ⟨by decide, by decide⟩
    obtain ⟨T118, h118, X118, e118, W118, st118⟩ := stJ X113 hx hZ e113 Ar117 (j := (1 : Int32)) hin117 (g := (mkF m 85 #[.val (.ref q1), .val (.int z1), .val (.int (2 : Int32)), .val (.int (1 : Int32))] [(.long (9223372036854775807 : Int64)), (.int (1 : Int32)), (.ref b20)])) rfl rfl (hb hby d2_85)
    refine own_go st118 ?_
    have le_118 : h111.size ≤ h118.size := Nat.le_of_eq W118.size.symm
    have K118 : Keep h0 h118 [q1] := Keep.wr K111 W118 (Or.inr sz69)
    have N118 := Fr.snoc X118 N111 ge68
    have V118 : Arv Z h118 b20 k20 .long (2 : Int32) [(.long (9223372036854775807 : Int64)), (.long (9223372036854775807 : Int64))] (.long (0 : Int64)) := Arv.set Ar117 q117 S117 N117 H117 G117 rfl W118 1 rfl (Nat.le_of_ble_eq_true rfl)
    refine own_go (fun _ => XS.aloadN X118.here hx rfl (hb hby d2_86) rfl rfl) ?_
    have F119 := (Fld.other W118 (Fld.other W111 (Fld.other W102 (Fld.keep (Fld.ext E86 (Fld.other W80 F71 (Or.inl ne83))) Kp91 (ninS ne103 nin0)) (Or.inl ne47)) (Or.inl ne58)) (Or.inl ne70))
    obtain ⟨T120, X120, e120, st120⟩ := getF X118 hx hZ hown (host := "") (Or.inl w_36) Via.refl e118 F119 (g := (mkF m 87 #[.val (.ref q1), .val (.int z1), .val (.int (2 : Int32)), .val (.int (1 : Int32))] [(.ref q1)])) rfl rfl (hb hby d2_87)
    refine own_go st120 ?_
    refine own_go (fun _ => XS.iloadN X120.here hx rfl (hb hby d2_90) rfl) ?_
    refine own_go (fun _ => XS.iloadN X120.here hx rfl (hb hby d2_91) rfl) ?_
    show ∃ t o, Steps p.tables e below (T120.setTop (mkF m 92 #[.val (.ref q1), .val (.int z1), .val (.int (2 : Int32)), .val (.int (1 : Int32))] [(.int (1 : Int32)), (.int (2 : Int32)), (.ref b24)])) t ∧ _
    refine own_go (fun _ => XS.iadd X120.here hx rfl (hb hby d2_92) rfl) ?_
    refine own_go (fun _ => XS.iloadN X120.here hx rfl (hb hby d2_93) rfl) ?_
    have ne121 : b24 ≠ b86 := own_ne (by omega)
    have F122 := (Arv.other (Arv.other (Arv.other (Arv.keep (V80.ext E86) Kp91 (ninS ne121 nin0)) W102 ne75) W111 ne76) W118 ne77)
    obtain ⟨cl123, Ar123, q123, S123, N123, H123, G123⟩ := id F122
    have hin123 : ¬ ((3 : Int32) < 0 ∨ cl123.slots.size ≤ ((3 : Int32)).toNatClampNeg) := inb_of S123 ⟨by decide, by decide⟩
    obtain ⟨T124, h124, X124, e124, W124, st124⟩ := stI X120 hx hZ e120 Ar123 (j := (3 : Int32)) hin123 (g := (mkF m 94 #[.val (.ref q1), .val (.int z1), .val (.int (2 : Int32)), .val (.int (1 : Int32))] [(.int (1 : Int32)), (.int (3 : Int32)), (.ref b24)])) rfl rfl (hb hby d2_94)
    refine own_go st124 ?_
    have le_124 : h118.size ≤ h124.size := Nat.le_of_eq W124.size.symm
    have K124 : Keep h0 h124 [q1] := Keep.wr K118 W124 (Or.inr sz82)
    have N124 := Fr.snoc X124 N118 ge81
    have V124 : Arv Z h124 b24 k24 .int (4 : Int32) [(.int (0 : Int32)), (.int (0 : Int32)), (.int (0 : Int32)), (.int (1 : Int32))] (.int (0 : Int32)) := Arv.set Ar123 q123 S123 N123 H123 G123 rfl W124 3 rfl (Nat.le_of_ble_eq_true rfl)
    refine own_go (fun _ => XS.iinc X124.here hx rfl (hb hby d2_95) rfl (l' := #[.val (.ref q1), .val (.int z1), .val (.int (2 : Int32)), .val (.int (2 : Int32))]) rfl) ?_
    refine own_go (fun _ => XS.goto X124.here hx rfl (pc0 := 98) (pc' := 50) rfl (hb hby d2_98) (by decide) (by decide)) ?_
    refine own_go (fun _ => XS.iloadN X124.here hx rfl (hb hby d2_50) rfl) ?_
    refine own_go (fun _ => XS.iloadN X124.here hx rfl (hb hby d2_51) rfl) ?_
    show ∃ t o, Steps p.tables e below (T124.setTop (mkF m 52 #[.val (.ref q1), .val (.int z1), .val (.int (2 : Int32)), .val (.int (2 : Int32))] [(.int (2 : Int32)), (.int (2 : Int32))])) t ∧ _
    refine own_go (fun _ => XS.icmpYes X124.here hx rfl (pc0 := 52) (pc' := 101) rfl (hb hby d2_52) rfl (flt (by decide : ¬ ((2 : Int32) < (2 : Int32)))).2.1 (by decide) (by decide)) ?_
    refine own_go (fun _ => XS.iloadN X124.here hx rfl (hb hby d2_101) rfl) ?_
    refine own_go (fun _ => XS.iconst X124.here hx rfl (hb hby d2_102)) ?_
    refine own_go (fun _ => XS.isub X124.here hx rfl (hb hby d2_103) rfl) ?_
    refine own_go (fun _ => XS.istoreN X124.here hx rfl (hb hby d2_104) rfl (l' := #[.val (.ref q1), .val (.int z1), .val (.int (2 : Int32)), .val (.int (1 : Int32))]) rfl) ?_
    have Gi125 : own_G own_pd (.double (0 : UInt64)) (2 : Int32) [(.double (9218868437227405312 : UInt64)), (.double (9218868437227405312 : UInt64))] := own_G.all rfl (own_cS ⟨_, rfl, own_inf⟩ (own_cS ⟨_, rfl, own_inf⟩ own_c0))
    have Gi126 : own_G own_pj (.long (0 : Int64)) (2 : Int32) [(.long (9223372036854775807 : Int64)), (.long (9223372036854775807 : Int64))] := own_G.all rfl (own_cS ⟨_, rfl⟩ (own_cS ⟨_, rfl⟩ own_c0))
    have Gi127 : own_G (own_pw (2 : Int32)) (.int (0 : Int32)) (4 : Int32) [(.int (0 : Int32)), (.int (0 : Int32)), (.int (0 : Int32)), (.int (1 : Int32))] := own_G.all rfl (own_cS ⟨_, rfl, by decide, by decide⟩ (own_cS ⟨_, rfl, by decide, by decide⟩ (own_cS ⟨_, rfl, by decide, by decide⟩ (own_cS ⟨_, rfl, by decide, by decide⟩ own_c0))))
    have hN128 : own_N (2 : Int32) (4 : Int32) := (Or.inl ⟨rfl, rfl⟩)
    refine own_go (fun _ => XS.iloadN X124.here hx rfl (hb hby d2_105) rfl) ?_
    show ∃ t o, Steps p.tables e below (T124.setTop (mkF m 106 #[.val (.ref q1), .val (.int z1), .val (.int (2 : Int32)), .val (.int (1 : Int32))] [(.int (1 : Int32))])) t ∧ _
    refine own_go (fun _ => XS.ifNo X124.here hx rfl (hb hby d2_106) rfl ((if0 _ _).trans (tlt (by decide : (0 : Int32) < (1 : Int32))).2.2.2)) ?_
    refine own_go (fun _ => XS.aloadN X124.here hx rfl (hb hby d2_109) rfl rfl) ?_
    refine own_go (fun _ => XS.iloadN X124.here hx rfl (hb hby d2_110) rfl) ?_
    show ∃ t o, Steps p.tables e below (T124.setTop (mkF m 111 #[.val (.ref q1), .val (.int z1), .val (.int (2 : Int32)), .val (.int (1 : Int32))] [(.int (1 : Int32)), (.ref q1)])) t ∧ _
    have F129 := (Exa.wr W124 (Exa.wr W118 (Exa.wr W111 (Exa.wr W102 (Exa.keep (Exa.ext E86 (Exa.wr W80 (Exa.wr W67 (Exa.wr W55 (Exa.wr W43 (Exa.keep (Exa.ext E30 (Exa.wr W27 F25)) Kp34)))))) Kp91)))))
    have F130 := (Fld.other W124 (Fld.other W118 (Fld.other W111 F104 (Or.inl ne58)) (Or.inl ne70)) (Or.inl ne83))
    have F131 := (Fld.other W124 (Fld.other W118 F112 (Or.inl ne70)) (Or.inl ne83))
    have F132 := (Fld.other W124 F119 (Or.inl ne83))
    have F133 := (Arv.other (Arv.other V111 W118 ne106) W124 ne107)
    have F134 := (Arv.other V118 W124 ne114)
    have F135 := (Old.wr (Old.wr (Old.wr (Old.wr (Old.keep F88 Kp91 (allS ge89 all0)) W102 ge44) W111 ge56) W118 ge68) W124 ge81)
    have zl136 : n0 ≤ h124.size := by omega
    obtain ⟨cq137, q137, q137'⟩ := F129.cell
    obtain ⟨_, _, ⟨T137, L137, k137, n137⟩, -, X137, ⟨Lc137, hQ137, l137, y137, z137⟩, st137⟩ := X124.privateBack hx (y := (⟨"com/example/holdback/holdback/sim/EventQueue", "play", "(I)V"⟩ : MethodName)) hown (mvT hZ w_55) (mvT hZ w_56) (mvT hZ (own_selp (y := (⟨"com/example/holdback/holdback/sim/EventQueue", "play", "(I)V"⟩ : MethodName)) w_75 rfl w_57 w_56 (by decide))) (Cond.privateMethod_at (mvP hZ w_57 (args := #[]))) (mvT hZ w_58) (by decide) (backOf (W := 0) (rmPlay l Z a0 hw [] q1 b16 b20 b24 k16 k20 k24 ([(.double (9218868437227405312 : UInt64)), (.double (9218868437227405312 : UInt64))]) ([(.long (9223372036854775807 : Int64)), (.long (9223372036854775807 : Int64))]) ([(.int (0 : Int32)), (.int (0 : Int32)), (.int (0 : Int32)), (.int (1 : Int32))]) (2 : Int32) (4 : Int32) (1 : Int32) h124 n0 zl136 F129 F130 F131 F132 F133 F134 V124 F135 Gi125 Gi126 Gi127 hN128 (by decide) (by decide) (by omega) (by omega) (by omega) (by omega)) hZ w_58 w_6 (by decide) (by decide)) (g := (mkF m 111 #[.val (.ref q1), .val (.int z1), .val (.int (2 : Int32)), .val (.int (1 : Int32))] [(.int (1 : Int32)), (.ref q1)])) rfl (by rw [hml]; rfl) (Steps.refl _) (a := q1) (by rw [e124]; exact q137) q137' (argsL := [(.int (1 : Int32))]) (rest := []) (lenOf pd__28I_29V rfl) rfl (by show 2 * 0 + _ ≤ _; exact Nat.le_of_eq rfl) (hb hby d2_111) (fun _ _ => ⟨rfl, e124, (by decide : 12 + 0 ≤ _), (by decide : 70 + 0 ≤ _)⟩)
    dsimp only [Pt.U, Pt.locs, Pt.cells, Pt.slots] at X137 l137 y137 z137 st137 hQ137
    rw [l137, y137, z137] at X137
    obtain ⟨wl2_137, rfl, Nq137, Kp137, G137_0, H137_0⟩ := hQ137
    have N137 := Fr.app N124 Nq137
    refine own_goT st137 ?_
    have le_137 : h124.size ≤ T137.heap.size := Kp137.1
    have K137 : Keep h0 T137.heap [q1] := Keep.trans K124 Kp137 (allS (Or.inr sz82) all0)
    refine own_go (fun _ => XS.iinc X137.here hx rfl (hb hby d2_114) rfl (l' := #[.val (.ref q1), .val (.int z1), .val (.int (2 : Int32)), .val (.int (0 : Int32))]) rfl) ?_
    refine own_go (fun _ => XS.goto X137.here hx rfl (pc0 := 117) (pc' := 105) rfl (hb hby d2_117) (by decide) (by decide)) ?_
    refine own_go (fun _ => XS.iloadN X137.here hx rfl (hb hby d2_105) rfl) ?_
    show ∃ t o, Steps p.tables e below (T137.setTop (mkF m 106 #[.val (.ref q1), .val (.int z1), .val (.int (2 : Int32)), .val (.int (0 : Int32))] [(.int (0 : Int32))])) t ∧ _
    refine own_go (fun _ => XS.ifYes X137.here hx rfl (pc0 := 106) (pc' := 120) rfl (hb hby d2_106) rfl ((if0 _ _).trans (flt (by decide : ¬ ((0 : Int32) < (0 : Int32)))).2.2.2) (by decide) (by decide)) ?_
    have lt138 : (b12 : Nat) < b30 := by omega
    have lt139 : (b16 : Nat) < b30 := by omega
    have lt140 : (b20 : Nat) < b30 := by omega
    have lt141 : (b24 : Nat) < b30 := by omega
    have F142 := (own_S.keep1 (own_S.wr (own_S.wr (own_S.wr (own_S.wr (own_S.keep1 (own_S.ext (own_S.wr (own_S.wr (own_S.wr (own_S.wr cs37 W43 (Or.inl lt138)) W55 (Or.inl lt139)) W67 (Or.inl lt140)) W80 (Or.inl lt141)) E86) Kp91 (allS (P := fun y : Nat => y < b30 ∨ ac_34 < y) (Or.inr lt87) all0)) W102 (Or.inl lt138)) W111 (Or.inl lt139)) W118 (Or.inl lt140)) W124 (Or.inl lt141)) Kp137 (allS (P := fun y : Nat => y < b30 ∨ ac_34 < y) (Or.inl lt141) all0))
    have lt143 : (b12 : Nat) < b86 := by omega
    have lt144 : (b16 : Nat) < b86 := by omega
    have lt145 : (b20 : Nat) < b86 := by omega
    have lt146 : (b24 : Nat) < b86 := by omega
    have F147 := (own_S.keep1 (own_S.wr (own_S.wr (own_S.wr (own_S.wr cs94 W102 (Or.inl lt143)) W111 (Or.inl lt144)) W118 (Or.inl lt145)) W124 (Or.inl lt146)) Kp137 (allS (P := fun y : Nat => y < b86 ∨ ac_91 < y) (Or.inl lt146) all0))
    have lt148 : (ac_91 : Nat) < T137.heap.size := by omega
    have nS149 : own_SS Z T137.heap (2 : Int32).toNatClampNeg (own_ff ([b30, b86] ++ [T137.heap.size])) (0 : Int) (0 : Int) := fun j hj => own_chain.at [b30, b86, T137.heap.size] ⟨own_S.up2 F142 lt87, own_S.up2 F147 lt148, trivial⟩ j (Nat.succ_lt_succ hj)
    have nR150 : own_R (2 : Int32) (own_ff ([b30, b86] ++ [T137.heap.size])) [(.ref b30), (.ref b86)] := own_R_of [b30, b86] T137.heap.size rfl
    show ∃ t o, Steps p.tables e below (T137.setTop (mkF m 120 #[.val (.ref q1), .val (.int z1), .val (.int (2 : Int32)), .val (.int (0 : Int32))] [])) t ∧ _
    have F151 := (Exa.keep F129 Kp137)
    have F152 := (Fld.keep F130 Kp137 (ninS ne83 nin0))
    have F153 := (Fld.keep F131 Kp137 (ninS ne83 nin0))
    have F154 := (Fld.keep F132 Kp137 (ninS ne83 nin0))
    have F155 := (Arv.keep F133 Kp137 (ninS ne107 nin0))
    have F156 := (Arv.keep F134 Kp137 (ninS ne114 nin0))
    have F157 := (Fld.keep (Fld.other W124 (Fld.other W118 (Fld.other W111 (Fld.other W102 (Fld.keep (Fld.ext E86 F84) Kp91 (ninS ne103 nin0)) (Or.inl ne47)) (Or.inl ne58)) (Or.inl ne70)) (Or.inl ne83)) Kp137 (ninS ne83 nin0))
    have F158 := (Arv.keep (Arv.other (Arv.other (Arv.other V102 W111 ne96) W118 ne97) W124 ne98) Kp137 (ninS ne98 nin0))
    have F159 := (Fld.keep (Fld.other W124 (Fld.other W118 (Fld.other W111 (Fld.other W102 (Fld.keep (Fld.ext E86 (Fld.other W80 (Fld.other W67 (Fld.other W55 (Fld.other W43 (Fld.keep (Fld.ext E30 (Fld.other W27 (Fld.ext E24 (Fld.other W23 (Fld.ext E20 (Fld.other W19 (Fld.ext E16 (Fld.other W15 (Fld.ext E12 P6) (Or.inr (slot_ne (a0 := a0) (Or.inl w_78) (Or.inr w_28) (by decide) (t := .int) (t' := (.array (.object "com/example/holdback/holdback/sim/EventQueue$Stream"))) (by decide) (by decide))))) (Or.inr (slot_ne (a0 := a0) (Or.inl w_78) (Or.inr w_31) (by decide) (t := .int) (t' := (.array .double)) (by decide) (by decide))))) (Or.inr (slot_ne (a0 := a0) (Or.inl w_78) (Or.inr w_34) (by decide) (t := .int) (t' := (.array .long)) (by decide) (by decide))))) (Or.inr (slot_ne (a0 := a0) (Or.inl w_78) (Or.inr w_37) (by decide) (t := .int) (t' := (.array .int)) (by decide) (by decide))))) Kp34 (ninS ne46 nin0)) (Or.inl ne47)) (Or.inl ne58)) (Or.inl ne70)) (Or.inl ne83))) Kp91 (ninS ne103 nin0)) (Or.inl ne47)) (Or.inl ne58)) (Or.inl ne70)) (Or.inl ne83)) Kp137 (ninS ne83 nin0))
    have F160 := (Fld.keep (Fld.other W124 (Fld.other W118 (Fld.other W111 (Fld.other W102 (Fld.keep (Fld.ext E86 (Fld.other W80 (Fld.other W67 (Fld.other W55 (Fld.other W43 (Fld.keep (Fld.ext E30 (Fld.other W27 (Fld.ext E24 (Fld.other W23 (Fld.ext E20 (Fld.other W19 (Fld.ext E16 (Fld.other W15 (Fld.ext E12 P7) (Or.inr (slot_ne (a0 := a0) (Or.inl w_87) (Or.inr w_28) (by decide) (t := .long) (t' := (.array (.object "com/example/holdback/holdback/sim/EventQueue$Stream"))) (by decide) (by decide))))) (Or.inr (slot_ne (a0 := a0) (Or.inl w_87) (Or.inr w_31) (by decide) (t := .long) (t' := (.array .double)) (by decide) (by decide))))) (Or.inr (slot_ne (a0 := a0) (Or.inl w_87) (Or.inr w_34) (by decide) (t := .long) (t' := (.array .long)) (by decide) (by decide))))) (Or.inr (slot_ne (a0 := a0) (Or.inl w_87) (Or.inr w_37) (by decide) (t := .long) (t' := (.array .int)) (by decide) (by decide))))) Kp34 (ninS ne46 nin0)) (Or.inl ne47)) (Or.inl ne58)) (Or.inl ne70)) (Or.inl ne83))) Kp91 (ninS ne103 nin0)) (Or.inl ne47)) (Or.inl ne58)) (Or.inl ne70)) (Or.inl ne83)) Kp137 (ninS ne83 nin0))
    obtain ⟨fs, hr, hrun, hended, hW, hsame⟩ := X137.leave (v := none) (fun _ => rfl)
    refine ⟨_, _, ?_, hrun, hended, _, _, rfl, ?_, ⟨_, rfl⟩, hW, hsame.mono (by decide) (by decide)⟩
    · exact X137.returnOut hx Bd.returns (hb hby d2_120) hr
    · show Q_rmQI Z _ _ h0 n0 _ T137.heap _
      exact ⟨b12, b16, b20, b24, k12, k16, k20, k24, [(.ref b30), (.ref b86)], [(.double (9218868437227405312 : UInt64)), (.double (9218868437227405312 : UInt64))], [(.long (9223372036854775807 : Int64)), (.long (9223372036854775807 : Int64))], wl2_137, (own_ff ([b30, b86] ++ [T137.heap.size])), (2 : Int32), (4 : Int32), rfl, N137, K137, F151, F152, F153, F154, F155, F156, G137_0, F157, F158, nS149, F159, F160, Gi125, Gi126, H137_0, hN128, nR150, (by omega), (by omega), (by omega), (by omega), (show (b24 : Nat) < b30 by omega), hk.2⟩
  · rw [hk.1]
    refine own_go (fun _ => XS.istoreN X10.here hx rfl (hb hby d2_16) rfl (l' := #[.val (.ref q1), .val (.int z1), .val (.int (4 : Int32)), .unset]) rfl) ?_
    refine own_go (fun _ => XS.aloadN X10.here hx rfl (hb hby d2_17) rfl rfl) ?_
    refine own_go (fun _ => XS.iloadN X10.here hx rfl (hb hby d2_18) rfl) ?_
    show ∃ t o, Steps p.tables e below (T10.setTop (mkF m 19 #[.val (.ref q1), .val (.int z1), .val (.int (4 : Int32)), .unset] [(.int (4 : Int32)), (.ref q1)])) t ∧ _
    obtain ⟨T161, h161, k161, X161, e161, E161, A161, Q161, O161, st161⟩ := newRE X10 hx hZ hown w_25 w_26 e10 (g := (mkF m 19 #[.val (.ref q1), .val (.int z1), .val (.int (4 : Int32)), .unset] [(.int (4 : Int32)), (.ref q1)])) rfl (hb hby d2_19) rfl (by decide) (cap := 4) (by decide) (by decide) (by decide) (by decide) (ad := "[Lcom/example/holdback/holdback/sim/EventQueue$Stream;") rfl
    obtain ⟨b161, g161⟩ : ∃ z, z = h0.size := ⟨_, rfl⟩
    rw [← g161] at A161 Q161 st161
    refine own_go st161 ?_
    have le_161 : h0.size ≤ h161.size := E161.1
    have lt_b161 : b161 < h161.size := A161.lt
    have V_b161 : Arv Z h161 b161 k161 (.object "com/example/holdback/holdback/sim/EventQueue$Stream") (4 : Int32) [.null, .null, .null, .null] .null := (Arv.new A161 (by decide)).pad (pad_rep [] .null 4)
    have K161 : Keep h0 h161 [q1] := Keep.ext (Keep.refl h0 [q1]) E161
    have F162 := (Exa.ext E161 P1)
    have F163 := (Fld.ext E161 P2)
    obtain ⟨T164, h164, X164, e164, W164, st164⟩ := putF X161 hx hZ hown (host := "") (Or.inl w_27) Via.refl e161 F163 F162 (Or.inr ⟨w_28, rfl, hnm⟩) w_5 (ty := (.array (.object "com/example/holdback/holdback/sim/EventQueue$Stream"))) (by decide) rfl rfl (g := (mkF m 22 #[.val (.ref q1), .val (.int z1), .val (.int (4 : Int32)), .unset] [(.ref b161), (.ref q1)])) rfl rfl (hb hby d2_22)
    refine own_go st164 ?_
    have le_164 : h161.size ≤ h164.size := Nat.le_of_eq W164.size.symm
    have K164 : Keep h0 h164 [q1] := Keep.wr K161 W164 (Or.inl (List.mem_of_getElem? (i := 0) rfl))
    have N164 := Fr.snoc X164 N10 gq
    have Fw164 := Fld.same W164 F163
    refine own_go (fun _ => XS.aloadN X164.here hx rfl (hb hby d2_25) rfl rfl) ?_
    refine own_go (fun _ => XS.iloadN X164.here hx rfl (hb hby d2_26) rfl) ?_
    show ∃ t o, Steps p.tables e below (T164.setTop (mkF m 27 #[.val (.ref q1), .val (.int z1), .val (.int (4 : Int32)), .unset] [(.int (4 : Int32)), (.ref q1)])) t ∧ _
    obtain ⟨T165, h165, k165, X165, e165, E165, A165, st165⟩ := newP (aty := .double) X164 hx hZ w_29 e164 (g := (mkF m 27 #[.val (.ref q1), .val (.int z1), .val (.int (4 : Int32)), .unset] [(.int (4 : Int32)), (.ref q1)])) rfl (hb hby d2_27) rfl (by decide) (cap := 4) (by decide) (by decide) (by decide) (by decide)
    obtain ⟨b165, g165⟩ : ∃ z, z = h164.size := ⟨_, rfl⟩
    rw [← g165] at A165 st165
    refine own_go st165 ?_
    have le_165 : h164.size ≤ h165.size := E165.1
    have lt_b165 : b165 < h165.size := A165.lt
    have V_b165 : Arv Z h165 b165 k165 .double (4 : Int32) [(.double (0 : UInt64)), (.double (0 : UInt64)), (.double (0 : UInt64)), (.double (0 : UInt64))] (.double (0 : UInt64)) := (Arv.new A165 (by decide)).pad (pad_rep [] (.double (0 : UInt64)) 4)
    have K165 : Keep h0 h165 [q1] := Keep.ext K164 E165
    have F166 := (Exa.ext E165 (Exa.wr W164 F162))
    have F167 := (Fld.ext E165 (Fld.other W164 (Fld.ext E161 P3) (Or.inr (slot_ne (a0 := a0) (Or.inr w_31) (Or.inr w_28) (by decide) (t := (.array .double)) (t' := (.array (.object "com/example/holdback/holdback/sim/EventQueue$Stream"))) (by decide) (by decide)))))
    obtain ⟨T168, h168, X168, e168, W168, st168⟩ := putF X165 hx hZ hown (host := "") (Or.inl w_30) Via.refl e165 F167 F166 (Or.inr ⟨w_31, rfl, hnm⟩) w_5 (ty := (.array .double)) (by decide) rfl rfl (g := (mkF m 29 #[.val (.ref q1), .val (.int z1), .val (.int (4 : Int32)), .unset] [(.ref b165), (.ref q1)])) rfl rfl (hb hby d2_29)
    refine own_go st168 ?_
    have le_168 : h165.size ≤ h168.size := Nat.le_of_eq W168.size.symm
    have K168 : Keep h0 h168 [q1] := Keep.wr K165 W168 (Or.inl (List.mem_of_getElem? (i := 0) rfl))
    have N168 := Fr.snoc X168 N164 gq
    have Fw168 := Fld.same W168 F167
    refine own_go (fun _ => XS.aloadN X168.here hx rfl (hb hby d2_32) rfl rfl) ?_
    refine own_go (fun _ => XS.iloadN X168.here hx rfl (hb hby d2_33) rfl) ?_
    show ∃ t o, Steps p.tables e below (T168.setTop (mkF m 34 #[.val (.ref q1), .val (.int z1), .val (.int (4 : Int32)), .unset] [(.int (4 : Int32)), (.ref q1)])) t ∧ _
    obtain ⟨T169, h169, k169, X169, e169, E169, A169, st169⟩ := newP (aty := .long) X168 hx hZ w_32 e168 (g := (mkF m 34 #[.val (.ref q1), .val (.int z1), .val (.int (4 : Int32)), .unset] [(.int (4 : Int32)), (.ref q1)])) rfl (hb hby d2_34) rfl (by decide) (cap := 4) (by decide) (by decide) (by decide) (by decide)
    obtain ⟨b169, g169⟩ : ∃ z, z = h168.size := ⟨_, rfl⟩
    rw [← g169] at A169 st169
    refine own_go st169 ?_
    have le_169 : h168.size ≤ h169.size := E169.1
    have lt_b169 : b169 < h169.size := A169.lt
    have V_b169 : Arv Z h169 b169 k169 .long (4 : Int32) [(.long (0 : Int64)), (.long (0 : Int64)), (.long (0 : Int64)), (.long (0 : Int64))] (.long (0 : Int64)) := (Arv.new A169 (by decide)).pad (pad_rep [] (.long (0 : Int64)) 4)
    have K169 : Keep h0 h169 [q1] := Keep.ext K168 E169
    have F170 := (Exa.ext E169 (Exa.wr W168 F166))
    have F171 := (Fld.ext E169 (Fld.other W168 (Fld.ext E165 (Fld.other W164 (Fld.ext E161 P4) (Or.inr (slot_ne (a0 := a0) (Or.inr w_34) (Or.inr w_28) (by decide) (t := (.array .long)) (t' := (.array (.object "com/example/holdback/holdback/sim/EventQueue$Stream"))) (by decide) (by decide))))) (Or.inr (slot_ne (a0 := a0) (Or.inr w_34) (Or.inr w_31) (by decide) (t := (.array .long)) (t' := (.array .double)) (by decide) (by decide)))))
    obtain ⟨T172, h172, X172, e172, W172, st172⟩ := putF X169 hx hZ hown (host := "") (Or.inl w_33) Via.refl e169 F171 F170 (Or.inr ⟨w_34, rfl, hnm⟩) w_5 (ty := (.array .long)) (by decide) rfl rfl (g := (mkF m 36 #[.val (.ref q1), .val (.int z1), .val (.int (4 : Int32)), .unset] [(.ref b169), (.ref q1)])) rfl rfl (hb hby d2_36)
    refine own_go st172 ?_
    have le_172 : h169.size ≤ h172.size := Nat.le_of_eq W172.size.symm
    have K172 : Keep h0 h172 [q1] := Keep.wr K169 W172 (Or.inl (List.mem_of_getElem? (i := 0) rfl))
    have N172 := Fr.snoc X172 N168 gq
    have Fw172 := Fld.same W172 F171
    refine own_go (fun _ => XS.aloadN X172.here hx rfl (hb hby d2_39) rfl rfl) ?_
    refine own_go (fun _ => XS.iconst X172.here hx rfl (hb hby d2_40)) ?_
    refine own_go (fun _ => XS.iloadN X172.here hx rfl (hb hby d2_41) rfl) ?_
    refine own_go (fun _ => XS.imul X172.here hx rfl (hb hby d2_42) rfl) ?_
    show ∃ t o, Steps p.tables e below (T172.setTop (mkF m 43 #[.val (.ref q1), .val (.int z1), .val (.int (4 : Int32)), .unset] [(.int (8 : Int32)), (.ref q1)])) t ∧ _
    obtain ⟨T173, h173, k173, X173, e173, E173, A173, st173⟩ := newP (aty := .int) X172 hx hZ w_35 e172 (g := (mkF m 43 #[.val (.ref q1), .val (.int z1), .val (.int (4 : Int32)), .unset] [(.int (8 : Int32)), (.ref q1)])) rfl (hb hby d2_43) rfl (by decide) (cap := 8) (by decide) (by decide) (by decide) (by decide)
    obtain ⟨b173, g173⟩ : ∃ z, z = h172.size := ⟨_, rfl⟩
    rw [← g173] at A173 st173
    refine own_go st173 ?_
    have le_173 : h172.size ≤ h173.size := E173.1
    have lt_b173 : b173 < h173.size := A173.lt
    have V_b173 : Arv Z h173 b173 k173 .int (8 : Int32) [(.int (0 : Int32)), (.int (0 : Int32)), (.int (0 : Int32)), (.int (0 : Int32)), (.int (0 : Int32)), (.int (0 : Int32)), (.int (0 : Int32)), (.int (0 : Int32))] (.int (0 : Int32)) := (Arv.new A173 (by decide)).pad (pad_rep [] (.int (0 : Int32)) 8)
    have K173 : Keep h0 h173 [q1] := Keep.ext K172 E173
    have F174 := (Exa.ext E173 (Exa.wr W172 F170))
    have F175 := (Fld.ext E173 (Fld.other W172 (Fld.ext E169 (Fld.other W168 (Fld.ext E165 (Fld.other W164 (Fld.ext E161 P5) (Or.inr (slot_ne (a0 := a0) (Or.inr w_37) (Or.inr w_28) (by decide) (t := (.array .int)) (t' := (.array (.object "com/example/holdback/holdback/sim/EventQueue$Stream"))) (by decide) (by decide))))) (Or.inr (slot_ne (a0 := a0) (Or.inr w_37) (Or.inr w_31) (by decide) (t := (.array .int)) (t' := (.array .double)) (by decide) (by decide))))) (Or.inr (slot_ne (a0 := a0) (Or.inr w_37) (Or.inr w_34) (by decide) (t := (.array .int)) (t' := (.array .long)) (by decide) (by decide)))))
    obtain ⟨T176, h176, X176, e176, W176, st176⟩ := putF X173 hx hZ hown (host := "") (Or.inl w_36) Via.refl e173 F175 F174 (Or.inr ⟨w_37, rfl, hnm⟩) w_5 (ty := (.array .int)) (by decide) rfl rfl (g := (mkF m 45 #[.val (.ref q1), .val (.int z1), .val (.int (4 : Int32)), .unset] [(.ref b173), (.ref q1)])) rfl rfl (hb hby d2_45)
    refine own_go st176 ?_
    have le_176 : h173.size ≤ h176.size := Nat.le_of_eq W176.size.symm
    have K176 : Keep h0 h176 [q1] := Keep.wr K173 W176 (Or.inl (List.mem_of_getElem? (i := 0) rfl))
    have N176 := Fr.snoc X176 N172 gq
    have Fw176 := Fld.same W176 F175
    refine own_go (fun _ => XS.iconst X176.here hx rfl (hb hby d2_48)) ?_
    refine own_go (fun _ => XS.istoreN X176.here hx rfl (hb hby d2_49) rfl (l' := #[.val (.ref q1), .val (.int z1), .val (.int (4 : Int32)), .val (.int (0 : Int32))]) rfl) ?_
    refine own_go (fun _ => XS.iloadN X176.here hx rfl (hb hby d2_50) rfl) ?_
    refine own_go (fun _ => XS.iloadN X176.here hx rfl (hb hby d2_51) rfl) ?_
    show ∃ t o, Steps p.tables e below (T176.setTop (mkF m 52 #[.val (.ref q1), .val (.int z1), .val (.int (4 : Int32)), .val (.int (0 : Int32))] [(.int (4 : Int32)), (.int (0 : Int32))])) t ∧ _
    refine own_go (fun _ => XS.icmpNo X176.here hx rfl (hb hby d2_52) rfl (tlt (by decide : (0 : Int32) < (4 : Int32))).2.1) ?_
    refine own_go (fun _ => XS.aloadN X176.here hx rfl (hb hby d2_55) rfl rfl) ?_
    have F177 := (Fld.other W176 (Fld.ext E173 (Fld.other W172 (Fld.ext E169 (Fld.other W168 (Fld.ext E165 Fw164) (Or.inr (slot_ne (a0 := a0) (Or.inr w_28) (Or.inr w_31) (by decide) (t := (.array (.object "com/example/holdback/holdback/sim/EventQueue$Stream"))) (t' := (.array .double)) (by decide) (by decide))))) (Or.inr (slot_ne (a0 := a0) (Or.inr w_28) (Or.inr w_34) (by decide) (t := (.array (.object "com/example/holdback/holdback/sim/EventQueue$Stream"))) (t' := (.array .long)) (by decide) (by decide))))) (Or.inr (slot_ne (a0 := a0) (Or.inr w_28) (Or.inr w_37) (by decide) (t := (.array (.object "com/example/holdback/holdback/sim/EventQueue$Stream"))) (t' := (.array .int)) (by decide) (by decide))))
    obtain ⟨T178, X178, e178, st178⟩ := getF X176 hx hZ hown (host := "") (Or.inl w_27) Via.refl e176 F177 (g := (mkF m 56 #[.val (.ref q1), .val (.int z1), .val (.int (4 : Int32)), .val (.int (0 : Int32))] [(.ref q1)])) rfl rfl (hb hby d2_56)
    refine own_go st178 ?_
    refine own_go (fun _ => XS.iloadN X178.here hx rfl (hb hby d2_59) rfl) ?_
    show ∃ t o, Steps p.tables e below (T178.setTop (mkF m 60 #[.val (.ref q1), .val (.int z1), .val (.int (4 : Int32)), .val (.int (0 : Int32))] [(.int (0 : Int32)), (.ref b161)])) t ∧ _
    obtain ⟨T179, h179, X179, e179, E179, A179, D179, -, st179⟩ := newO X178 hx hZ hown w_25 w_38 w_39 e178 (g := (mkF m 60 #[.val (.ref q1), .val (.int z1), .val (.int (4 : Int32)), .val (.int (0 : Int32))] [(.int (0 : Int32)), (.ref b161)])) rfl (hb hby d2_60) (by decide) (by decide)
    obtain ⟨b179, g179⟩ : ∃ z, z = h176.size := ⟨_, rfl⟩
    rw [← g179] at A179 D179 st179
    refine own_go st179 ?_
    have le_179 : h176.size ≤ h179.size := E179.1
    have lt_b179 : b179 < h179.size := A179.lt
    have F_moments_b179 : Fld Z h179 b179 "com/example/holdback/holdback/sim/EventQueue$Stream" "moments" "[D" .null := D179 (Or.inl w_45) (ty := (.array .double)) (by decide)
    have F_places_b179 : Fld Z h179 b179 "com/example/holdback/holdback/sim/EventQueue$Stream" "places" "[J" .null := D179 (Or.inl w_47) (ty := (.array .long)) (by decide)
    have F_actions_b179 : Fld Z h179 b179 "com/example/holdback/holdback/sim/EventQueue$Stream" "actions" "[Ljava/lang/Runnable;" .null := D179 (Or.inl w_51) (ty := (.array (.object "java/lang/Runnable"))) (by decide)
    have F_lastAt_b179 : Fld Z h179 b179 "com/example/holdback/holdback/sim/EventQueue$Stream" "lastAt" "D" (defaultValue .double) := D179 (Or.inl w_85) (ty := .double) (by decide)
    have F_size_b179 : Fld Z h179 b179 "com/example/holdback/holdback/sim/EventQueue$Stream" "size" "I" (.int (0 : Int32)) := D179 (Or.inl w_94) (ty := .int) (by decide)
    have F_first_b179 : Fld Z h179 b179 "com/example/holdback/holdback/sim/EventQueue$Stream" "first" "I" (.int (0 : Int32)) := D179 (Or.inl w_96) (ty := .int) (by decide)
    have K179 : Keep h0 h179 [q1] := Keep.ext K176 E179
    refine own_go (fun _ => XS.dup X179.here hx rfl (hb hby d2_63) rfl rfl) ?_
    show ∃ t o, Steps p.tables e below (T179.setTop (mkF m 64 #[.val (.ref q1), .val (.int z1), .val (.int (4 : Int32)), .val (.int (0 : Int32))] [(.ref b179), (.ref b179), (.int (0 : Int32)), (.ref b161)])) t ∧ _
    have F180 := ((Old.wr ((Old.wr ((Old.wr ((Old.wr (OLD.ext E161) W164 gq).ext E165) W168 gq).ext E169) W172 gq).ext E173) W176 gq).ext E179)
    have ge181 : n0 ≤ b179 := by omega
    have zl182 : n0 ≤ h179.size := by omega
    obtain ⟨_, _, ⟨T183, L183, k183, n183⟩, -, X183, ⟨Lc183, hQ183, l183, y183, z183⟩, st183⟩ := own_specR X179 hx hZ (y := (⟨"com/example/holdback/holdback/sim/EventQueue$Stream", "<init>", "()V"⟩ : MethodName)) rfl hown w_40 w_41 w_42 (by decide) (backOf (W := 3) (rmSI l Z a0 hw [] b179 h179 n0 zl182 A179 F_moments_b179 F_places_b179 F_actions_b179 F_first_b179 F_size_b179 F_lastAt_b179 F180 ge181) hZ w_42 w_39 (by decide) (by decide)) (g := (mkF m 64 #[.val (.ref q1), .val (.int z1), .val (.int (4 : Int32)), .val (.int (0 : Int32))] [(.ref b179), (.ref b179), (.int (0 : Int32)), (.ref b161)])) rfl (by rw [hml]; rfl) (Steps.refl _) (a := b179) (argsL := []) (rest := [(.ref b179), (.int (0 : Int32)), (.ref b161)]) (lenOf pd__28_29V rfl) rfl (by show 2 * 0 + _ ≤ _; exact Nat.le_of_eq rfl) (hb hby d2_64) (fun _ _ => ⟨rfl, e179, (by decide : 5 + 3 ≤ _), (by decide : 26 + 24 ≤ _)⟩)
    dsimp only [Pt.U, Pt.locs, Pt.cells, Pt.slots] at X183 l183 y183 z183 st183 hQ183
    rw [l183, y183, z183] at X183
    obtain ⟨am_183, ap_183, ac_183, km_183, kp_183, kc_183, rfl, Nq183, Kp183, G183_0, G183_1, G183_2, G183_3, G183_4, G183_5, G183_6, G183_7, G183_8, H183_0, H183_1, H183_2⟩ := hQ183
    have N183 := Fr.app N176 Nq183
    refine own_goT st183 ?_
    have le_183 : h179.size ≤ T183.heap.size := Kp183.1
    have sz184 : h0.size ≤ b179 := by omega
    have K183 : Keep h0 T183.heap [q1] := Keep.trans K179 Kp183 (allS (Or.inr sz184) all0)
    have lt_am_183 : am_183 < T183.heap.size := (G183_6).lt
    have lt_ap_183 : ap_183 < T183.heap.size := (G183_7).lt
    have lt_ac_183 : ac_183 < T183.heap.size := (G183_8).lt
    have lt185 : (b179 : Nat) < am_183 := by omega
    have F187 := (Exa.keep A179 Kp183)
    have cs186 : own_S Z T183.heap b179 (ac_183 + 1) 0 0 := ⟨am_183, ap_183, ac_183, _, _, _, _, _, _, (0 : Int32), (0 : Int32), (0 : Int32), lt185, H183_1, H183_2, Nat.lt_succ_self _, F187, G183_0, G183_1, G183_2, G183_3, G183_4, own_la G183_5, G183_6, G183_7, G183_8, own_gm, own_gp, own_gc, ⟨by decide, by decide⟩, ⟨by decide, by decide⟩, by decide⟩
    have ne188 : b161 ≠ q1 := own_ne (by omega)
    have ne189 : b161 ≠ b179 := own_ne (by omega)
    have F190 := (Arv.keep ((Arv.other ((Arv.other ((Arv.other ((Arv.other V_b161 W164 ne188).ext E165) W168 ne188).ext E169) W172 ne188).ext E173) W176 ne188).ext E179) Kp183 (ninS ne189 nin0))
    obtain ⟨cl191, Ar191, q191, S191, N191, H191, G191⟩ := id F190
    have hin191 : ¬ ((0 : Int32) < 0 ∨ cl191.slots.size ≤ ((0 : Int32)).toNatClampNeg) := inb_of S191 ⟨by decide, by decide⟩
    obtain ⟨T192, h192, X192, e192, W192, st192⟩ := stR X183 hx hZ rfl Ar191 (j := (0 : Int32)) hin191 rfl (Sto.ofV Ar191 q191 O161 (Ins.self F187)) (g := (mkF m 67 #[.val (.ref q1), .val (.int z1), .val (.int (4 : Int32)), .val (.int (0 : Int32))] [(.ref b179), (.int (0 : Int32)), (.ref b161)])) rfl rfl (hb hby d2_67)
    refine own_go st192 ?_
    have ge193 : n0 ≤ b161 := by omega
    have le_192 : T183.heap.size ≤ h192.size := Nat.le_of_eq W192.size.symm
    have sz194 : h0.size ≤ b161 := by omega
    have K192 : Keep h0 h192 [q1] := Keep.wr K183 W192 (Or.inr sz194)
    have N192 := Fr.snoc X192 N183 ge193
    have V192 : Arv Z h192 b161 k161 (.object "com/example/holdback/holdback/sim/EventQueue$Stream") (4 : Int32) [(.ref b179), .null, .null, .null] .null := Arv.set Ar191 q191 S191 N191 H191 G191 rfl W192 0 rfl (Nat.le_of_ble_eq_true rfl)
    refine own_go (fun _ => XS.aloadN X192.here hx rfl (hb hby d2_68) rfl rfl) ?_
    have ne195 : q1 ≠ b179 := own_ne (by omega)
    have ne196 : q1 ≠ b161 := own_ne (by omega)
    have F197 := (Fld.other W192 (Fld.keep (Fld.ext E179 (Fld.other W176 (Fld.ext E173 (Fld.other W172 (Fld.ext E169 Fw168) (Or.inr (slot_ne (a0 := a0) (Or.inr w_31) (Or.inr w_34) (by decide) (t := (.array .double)) (t' := (.array .long)) (by decide) (by decide))))) (Or.inr (slot_ne (a0 := a0) (Or.inr w_31) (Or.inr w_37) (by decide) (t := (.array .double)) (t' := (.array .int)) (by decide) (by decide))))) Kp183 (ninS ne195 nin0)) (Or.inl ne196))
    obtain ⟨T198, X198, e198, st198⟩ := getF X192 hx hZ hown (host := "") (Or.inl w_30) Via.refl e192 F197 (g := (mkF m 69 #[.val (.ref q1), .val (.int z1), .val (.int (4 : Int32)), .val (.int (0 : Int32))] [(.ref q1)])) rfl rfl (hb hby d2_69)
    refine own_go st198 ?_
    refine own_go (fun _ => XS.iloadN X198.here hx rfl (hb hby d2_72) rfl) ?_
    refine own_go (fun _ => X198.ldc2DoubleC hx hown (mvT hZ w_53) (g := (mkF m 73 #[.val (.ref q1), .val (.int z1), .val (.int (4 : Int32)), .val (.int (0 : Int32))] [(.int (0 : Int32)), (.ref b165)])) rfl (hb hby d2_73) _) ?_
    have ne199 : b165 ≠ q1 := own_ne (by omega)
    have ne200 : b165 ≠ b179 := own_ne (by omega)
    have ne201 : b165 ≠ b161 := own_ne (by omega)
    have F202 := (Arv.other (Arv.keep ((Arv.other ((Arv.other ((Arv.other V_b165 W168 ne199).ext E169) W172 ne199).ext E173) W176 ne199).ext E179) Kp183 (ninS ne200 nin0)) W192 ne201)
    obtain ⟨cl203, Ar203, q203, S203, N203, H203, G203⟩ := id F202
    have hin203 : ¬ ((0 : Int32) < 0 ∨ cl203.slots.size ≤ ((0 : Int32)).toNatClampNeg) := inb_of S203 ⟨by decide, by decide⟩
    obtain ⟨T204, h204, X204, e204, W204, st204⟩ := stD X198 hx hZ e198 Ar203 (j := (0 : Int32)) hin203 (g := (mkF m 76 #[.val (.ref q1), .val (.int z1), .val (.int (4 : Int32)), .val (.int (0 : Int32))] [(.double (9218868437227405312 : UInt64)), (.int (0 : Int32)), (.ref b165)])) rfl rfl (hb hby d2_76)
    refine own_go st204 ?_
    have ge205 : n0 ≤ b165 := by omega
    have le_204 : h192.size ≤ h204.size := Nat.le_of_eq W204.size.symm
    have sz206 : h0.size ≤ b165 := by omega
    have K204 : Keep h0 h204 [q1] := Keep.wr K192 W204 (Or.inr sz206)
    have N204 := Fr.snoc X204 N192 ge205
    have V204 : Arv Z h204 b165 k165 .double (4 : Int32) [(.double (9218868437227405312 : UInt64)), (.double (0 : UInt64)), (.double (0 : UInt64)), (.double (0 : UInt64))] (.double (0 : UInt64)) := Arv.set Ar203 q203 S203 N203 H203 G203 rfl W204 0 rfl (Nat.le_of_ble_eq_true rfl)
    refine own_go (fun _ => XS.aloadN X204.here hx rfl (hb hby d2_77) rfl rfl) ?_
    show ∃ t o, Steps p.tables e below (T204.setTop (mkF m 78 #[.val (.ref q1), .val (.int z1), .val (.int (4 : Int32)), .val (.int (0 : Int32))] [(.ref q1)])) t ∧ _
    have ne207 : q1 ≠ b165 := own_ne (by omega)
    have F208 := (Fld.other W204 (Fld.other W192 (Fld.keep (Fld.ext E179 (Fld.other W176 (Fld.ext E173 Fw172) (Or.inr (slot_ne (a0 := a0) (Or.inr w_34) (Or.inr w_37) (by decide) (t := (.array .long)) (t' := (.array .int)) (by decide) (by decide))))) Kp183 (ninS ne195 nin0)) (Or.inl ne196)) (Or.inl ne207))
    obtain ⟨T209, X209, e209, st209⟩ := getF X204 hx hZ hown (host := "") (Or.inl w_33) Via.refl e204 F208 (g := (mkF m 78 #[.val (.ref q1), .val (.int z1), .val (.int (4 : Int32)), .val (.int (0 : Int32))] [(.ref q1)])) rfl rfl (hb hby d2_78)
    refine own_go st209 ?_
    refine own_go (fun _ => XS.iloadN X209.here hx rfl (hb hby d2_81) rfl) ?_
    refine own_go (fun _ => X209.ldc2Long hx hown (mvT hZ w_54) (g := (mkF m 82 #[.val (.ref q1), .val (.int z1), .val (.int (4 : Int32)), .val (.int (0 : Int32))] [(.int (0 : Int32)), (.ref b169)])) rfl (hb hby d2_82) _) ?_
    have ne210 : b169 ≠ q1 := own_ne (by omega)
    have ne211 : b169 ≠ b179 := own_ne (by omega)
    have ne212 : b169 ≠ b161 := own_ne (by omega)
    have ne213 : b169 ≠ b165 := own_ne (by omega)
    have F214 := (Arv.other (Arv.other (Arv.keep ((Arv.other ((Arv.other V_b169 W172 ne210).ext E173) W176 ne210).ext E179) Kp183 (ninS ne211 nin0)) W192 ne212) W204 ne213)
    obtain ⟨cl215, Ar215, q215, S215, N215, H215, G215⟩ := id F214
    have hin215 : ¬ ((0 : Int32) < 0 ∨ cl215.slots.size ≤ ((0 : Int32)).toNatClampNeg) := inb_of S215 ⟨by decide, by decide⟩
    obtain ⟨T216, h216, X216, e216, W216, st216⟩ := stJ X209 hx hZ e209 Ar215 (j := (0 : Int32)) hin215 (g := (mkF m 85 #[.val (.ref q1), .val (.int z1), .val (.int (4 : Int32)), .val (.int (0 : Int32))] [(.long (9223372036854775807 : Int64)), (.int (0 : Int32)), (.ref b169)])) rfl rfl (hb hby d2_85)
    refine own_go st216 ?_
    have ge217 : n0 ≤ b169 := by omega
    have le_216 : h204.size ≤ h216.size := Nat.le_of_eq W216.size.symm
    have sz218 : h0.size ≤ b169 := by omega
    have K216 : Keep h0 h216 [q1] := Keep.wr K204 W216 (Or.inr sz218)
    have N216 := Fr.snoc X216 N204 ge217
    have V216 : Arv Z h216 b169 k169 .long (4 : Int32) [(.long (9223372036854775807 : Int64)), (.long (0 : Int64)), (.long (0 : Int64)), (.long (0 : Int64))] (.long (0 : Int64)) := Arv.set Ar215 q215 S215 N215 H215 G215 rfl W216 0 rfl (Nat.le_of_ble_eq_true rfl)
    refine own_go (fun _ => XS.aloadN X216.here hx rfl (hb hby d2_86) rfl rfl) ?_
    have ne219 : q1 ≠ b169 := own_ne (by omega)
    have F220 := (Fld.other W216 (Fld.other W204 (Fld.other W192 (Fld.keep (Fld.ext E179 Fw176) Kp183 (ninS ne195 nin0)) (Or.inl ne196)) (Or.inl ne207)) (Or.inl ne219))
    obtain ⟨T221, X221, e221, st221⟩ := getF X216 hx hZ hown (host := "") (Or.inl w_36) Via.refl e216 F220 (g := (mkF m 87 #[.val (.ref q1), .val (.int z1), .val (.int (4 : Int32)), .val (.int (0 : Int32))] [(.ref q1)])) rfl rfl (hb hby d2_87)
    refine own_go st221 ?_
    refine own_go (fun _ => XS.iloadN X221.here hx rfl (hb hby d2_90) rfl) ?_
    refine own_go (fun _ => XS.iloadN X221.here hx rfl (hb hby d2_91) rfl) ?_
    show ∃ t o, Steps p.tables e below (T221.setTop (mkF m 92 #[.val (.ref q1), .val (.int z1), .val (.int (4 : Int32)), .val (.int (0 : Int32))] [(.int (0 : Int32)), (.int (4 : Int32)), (.ref b173)])) t ∧ _
    refine own_go (fun _ => XS.iadd X221.here hx rfl (hb hby d2_92) rfl) ?_
    refine own_go (fun _ => XS.iloadN X221.here hx rfl (hb hby d2_93) rfl) ?_
    have ne222 : b173 ≠ q1 := own_ne (by omega)
    have ne223 : b173 ≠ b179 := own_ne (by omega)
    have ne224 : b173 ≠ b161 := own_ne (by omega)
    have ne225 : b173 ≠ b165 := own_ne (by omega)
    have ne226 : b173 ≠ b169 := own_ne (by omega)
    have F227 := (Arv.other (Arv.other (Arv.other (Arv.keep ((Arv.other V_b173 W176 ne222).ext E179) Kp183 (ninS ne223 nin0)) W192 ne224) W204 ne225) W216 ne226)
    obtain ⟨cl228, Ar228, q228, S228, N228, H228, G228⟩ := id F227
    have hin228 : ¬ ((4 : Int32) < 0 ∨ cl228.slots.size ≤ ((4 : Int32)).toNatClampNeg) := inb_of S228 ⟨by decide, by decide⟩
    obtain ⟨T229, h229, X229, e229, W229, st229⟩ := stI X221 hx hZ e221 Ar228 (j := (4 : Int32)) hin228 (g := (mkF m 94 #[.val (.ref q1), .val (.int z1), .val (.int (4 : Int32)), .val (.int (0 : Int32))] [(.int (0 : Int32)), (.int (4 : Int32)), (.ref b173)])) rfl rfl (hb hby d2_94)
    refine own_go st229 ?_
    have ge230 : n0 ≤ b173 := by omega
    have le_229 : h216.size ≤ h229.size := Nat.le_of_eq W229.size.symm
    have sz231 : h0.size ≤ b173 := by omega
    have K229 : Keep h0 h229 [q1] := Keep.wr K216 W229 (Or.inr sz231)
    have N229 := Fr.snoc X229 N216 ge230
    have V229 : Arv Z h229 b173 k173 .int (8 : Int32) [(.int (0 : Int32)), (.int (0 : Int32)), (.int (0 : Int32)), (.int (0 : Int32)), (.int (0 : Int32)), (.int (0 : Int32)), (.int (0 : Int32)), (.int (0 : Int32))] (.int (0 : Int32)) := Arv.set Ar228 q228 S228 N228 H228 G228 rfl W229 4 rfl (Nat.le_of_ble_eq_true rfl)
    refine own_go (fun _ => XS.iinc X229.here hx rfl (hb hby d2_95) rfl (l' := #[.val (.ref q1), .val (.int z1), .val (.int (4 : Int32)), .val (.int (1 : Int32))]) rfl) ?_
    refine own_go (fun _ => XS.goto X229.here hx rfl (pc0 := 98) (pc' := 50) rfl (hb hby d2_98) (by decide) (by decide)) ?_
    refine own_go (fun _ => XS.iloadN X229.here hx rfl (hb hby d2_50) rfl) ?_
    refine own_go (fun _ => XS.iloadN X229.here hx rfl (hb hby d2_51) rfl) ?_
    show ∃ t o, Steps p.tables e below (T229.setTop (mkF m 52 #[.val (.ref q1), .val (.int z1), .val (.int (4 : Int32)), .val (.int (1 : Int32))] [(.int (4 : Int32)), (.int (1 : Int32))])) t ∧ _
    refine own_go (fun _ => XS.icmpNo X229.here hx rfl (hb hby d2_52) rfl (tlt (by decide : (1 : Int32) < (4 : Int32))).2.1) ?_
    refine own_go (fun _ => XS.aloadN X229.here hx rfl (hb hby d2_55) rfl rfl) ?_
    have ne232 : q1 ≠ b173 := own_ne (by omega)
    have F233 := (Fld.other W229 (Fld.other W216 (Fld.other W204 (Fld.other W192 (Fld.keep (Fld.ext E179 F177) Kp183 (ninS ne195 nin0)) (Or.inl ne196)) (Or.inl ne207)) (Or.inl ne219)) (Or.inl ne232))
    obtain ⟨T234, X234, e234, st234⟩ := getF X229 hx hZ hown (host := "") (Or.inl w_27) Via.refl e229 F233 (g := (mkF m 56 #[.val (.ref q1), .val (.int z1), .val (.int (4 : Int32)), .val (.int (1 : Int32))] [(.ref q1)])) rfl rfl (hb hby d2_56)
    refine own_go st234 ?_
    refine own_go (fun _ => XS.iloadN X234.here hx rfl (hb hby d2_59) rfl) ?_
    show ∃ t o, Steps p.tables e below (T234.setTop (mkF m 60 #[.val (.ref q1), .val (.int z1), .val (.int (4 : Int32)), .val (.int (1 : Int32))] [(.int (1 : Int32)), (.ref b161)])) t ∧ _
    obtain ⟨T235, h235, X235, e235, E235, A235, D235, -, st235⟩ := newO X234 hx hZ hown w_25 w_38 w_39 e234 (g := (mkF m 60 #[.val (.ref q1), .val (.int z1), .val (.int (4 : Int32)), .val (.int (1 : Int32))] [(.int (1 : Int32)), (.ref b161)])) rfl (hb hby d2_60) (by decide) (by decide)
    obtain ⟨b235, g235⟩ : ∃ z, z = h229.size := ⟨_, rfl⟩
    rw [← g235] at A235 D235 st235
    refine own_go st235 ?_
    have le_235 : h229.size ≤ h235.size := E235.1
    have lt_b235 : b235 < h235.size := A235.lt
    have F_moments_b235 : Fld Z h235 b235 "com/example/holdback/holdback/sim/EventQueue$Stream" "moments" "[D" .null := D235 (Or.inl w_45) (ty := (.array .double)) (by decide)
    have F_places_b235 : Fld Z h235 b235 "com/example/holdback/holdback/sim/EventQueue$Stream" "places" "[J" .null := D235 (Or.inl w_47) (ty := (.array .long)) (by decide)
    have F_actions_b235 : Fld Z h235 b235 "com/example/holdback/holdback/sim/EventQueue$Stream" "actions" "[Ljava/lang/Runnable;" .null := D235 (Or.inl w_51) (ty := (.array (.object "java/lang/Runnable"))) (by decide)
    have F_lastAt_b235 : Fld Z h235 b235 "com/example/holdback/holdback/sim/EventQueue$Stream" "lastAt" "D" (defaultValue .double) := D235 (Or.inl w_85) (ty := .double) (by decide)
    have F_size_b235 : Fld Z h235 b235 "com/example/holdback/holdback/sim/EventQueue$Stream" "size" "I" (.int (0 : Int32)) := D235 (Or.inl w_94) (ty := .int) (by decide)
    have F_first_b235 : Fld Z h235 b235 "com/example/holdback/holdback/sim/EventQueue$Stream" "first" "I" (.int (0 : Int32)) := D235 (Or.inl w_96) (ty := .int) (by decide)
    have K235 : Keep h0 h235 [q1] := Keep.ext K229 E235
    have lt236 : (ac_183 : Nat) < b235 := by omega
    refine own_go (fun _ => XS.dup X235.here hx rfl (hb hby d2_63) rfl rfl) ?_
    show ∃ t o, Steps p.tables e below (T235.setTop (mkF m 64 #[.val (.ref q1), .val (.int z1), .val (.int (4 : Int32)), .val (.int (1 : Int32))] [(.ref b235), (.ref b235), (.int (1 : Int32)), (.ref b161)])) t ∧ _
    have F237 := ((Old.wr (Old.wr (Old.wr (Old.wr (Old.keep F180 Kp183 (allS ge181 all0)) W192 ge193) W204 ge205) W216 ge217) W229 ge230).ext E235)
    have ge238 : n0 ≤ b235 := by omega
    have zl239 : n0 ≤ h235.size := by omega
    obtain ⟨_, _, ⟨T240, L240, k240, n240⟩, -, X240, ⟨Lc240, hQ240, l240, y240, z240⟩, st240⟩ := own_specR X235 hx hZ (y := (⟨"com/example/holdback/holdback/sim/EventQueue$Stream", "<init>", "()V"⟩ : MethodName)) rfl hown w_40 w_41 w_42 (by decide) (backOf (W := 3) (rmSI l Z a0 hw [] b235 h235 n0 zl239 A235 F_moments_b235 F_places_b235 F_actions_b235 F_first_b235 F_size_b235 F_lastAt_b235 F237 ge238) hZ w_42 w_39 (by decide) (by decide)) (g := (mkF m 64 #[.val (.ref q1), .val (.int z1), .val (.int (4 : Int32)), .val (.int (1 : Int32))] [(.ref b235), (.ref b235), (.int (1 : Int32)), (.ref b161)])) rfl (by rw [hml]; rfl) (Steps.refl _) (a := b235) (argsL := []) (rest := [(.ref b235), (.int (1 : Int32)), (.ref b161)]) (lenOf pd__28_29V rfl) rfl (by show 2 * 0 + _ ≤ _; exact Nat.le_of_eq rfl) (hb hby d2_64) (fun _ _ => ⟨rfl, e235, (by decide : 9 + 3 ≤ _), (by decide : 56 + 24 ≤ _)⟩)
    dsimp only [Pt.U, Pt.locs, Pt.cells, Pt.slots] at X240 l240 y240 z240 st240 hQ240
    rw [l240, y240, z240] at X240
    obtain ⟨am_240, ap_240, ac_240, km_240, kp_240, kc_240, rfl, Nq240, Kp240, G240_0, G240_1, G240_2, G240_3, G240_4, G240_5, G240_6, G240_7, G240_8, H240_0, H240_1, H240_2⟩ := hQ240
    have N240 := Fr.app N229 Nq240
    refine own_goT st240 ?_
    have le_240 : h235.size ≤ T240.heap.size := Kp240.1
    have sz241 : h0.size ≤ b235 := by omega
    have K240 : Keep h0 T240.heap [q1] := Keep.trans K235 Kp240 (allS (Or.inr sz241) all0)
    have lt_am_240 : am_240 < T240.heap.size := (G240_6).lt
    have lt_ap_240 : ap_240 < T240.heap.size := (G240_7).lt
    have lt_ac_240 : ac_240 < T240.heap.size := (G240_8).lt
    have lt242 : (b235 : Nat) < am_240 := by omega
    have F244 := (Exa.keep A235 Kp240)
    have cs243 : own_S Z T240.heap b235 (ac_240 + 1) 0 0 := ⟨am_240, ap_240, ac_240, _, _, _, _, _, _, (0 : Int32), (0 : Int32), (0 : Int32), lt242, H240_1, H240_2, Nat.lt_succ_self _, F244, G240_0, G240_1, G240_2, G240_3, G240_4, own_la G240_5, G240_6, G240_7, G240_8, own_gm, own_gp, own_gc, ⟨by decide, by decide⟩, ⟨by decide, by decide⟩, by decide⟩
    have ne245 : b161 ≠ b165 := own_ne (by omega)
    have ne246 : b161 ≠ b169 := own_ne (by omega)
    have ne247 : b161 ≠ b173 := own_ne (by omega)
    have ne248 : b161 ≠ b235 := own_ne (by omega)
    have F249 := (Arv.keep ((Arv.other (Arv.other (Arv.other V192 W204 ne245) W216 ne246) W229 ne247).ext E235) Kp240 (ninS ne248 nin0))
    obtain ⟨cl250, Ar250, q250, S250, N250, H250, G250⟩ := id F249
    have hin250 : ¬ ((1 : Int32) < 0 ∨ cl250.slots.size ≤ ((1 : Int32)).toNatClampNeg) := inb_of S250 ⟨by decide, by decide⟩
    obtain ⟨T251, h251, X251, e251, W251, st251⟩ := stR X240 hx hZ rfl Ar250 (j := (1 : Int32)) hin250 rfl (Sto.ofV Ar250 q250 O161 (Ins.self F244)) (g := (mkF m 67 #[.val (.ref q1), .val (.int z1), .val (.int (4 : Int32)), .val (.int (1 : Int32))] [(.ref b235), (.int (1 : Int32)), (.ref b161)])) rfl rfl (hb hby d2_67)
    refine own_go st251 ?_
    have le_251 : T240.heap.size ≤ h251.size := Nat.le_of_eq W251.size.symm
    have K251 : Keep h0 h251 [q1] := Keep.wr K240 W251 (Or.inr sz194)
    have N251 := Fr.snoc X251 N240 ge193
    have V251 : Arv Z h251 b161 k161 (.object "com/example/holdback/holdback/sim/EventQueue$Stream") (4 : Int32) [(.ref b179), (.ref b235), .null, .null] .null := Arv.set Ar250 q250 S250 N250 H250 G250 rfl W251 1 rfl (Nat.le_of_ble_eq_true rfl)
    refine own_go (fun _ => XS.aloadN X251.here hx rfl (hb hby d2_68) rfl rfl) ?_
    have ne252 : q1 ≠ b235 := own_ne (by omega)
    have F253 := (Fld.other W251 (Fld.keep (Fld.ext E235 (Fld.other W229 (Fld.other W216 (Fld.other W204 F197 (Or.inl ne207)) (Or.inl ne219)) (Or.inl ne232))) Kp240 (ninS ne252 nin0)) (Or.inl ne196))
    obtain ⟨T254, X254, e254, st254⟩ := getF X251 hx hZ hown (host := "") (Or.inl w_30) Via.refl e251 F253 (g := (mkF m 69 #[.val (.ref q1), .val (.int z1), .val (.int (4 : Int32)), .val (.int (1 : Int32))] [(.ref q1)])) rfl rfl (hb hby d2_69)
    refine own_go st254 ?_
    refine own_go (fun _ => XS.iloadN X254.here hx rfl (hb hby d2_72) rfl) ?_
    refine own_go (fun _ => X254.ldc2DoubleC hx hown (mvT hZ w_53) (g := (mkF m 73 #[.val (.ref q1), .val (.int z1), .val (.int (4 : Int32)), .val (.int (1 : Int32))] [(.int (1 : Int32)), (.ref b165)])) rfl (hb hby d2_73) _) ?_
    have ne255 : b165 ≠ b169 := own_ne (by omega)
    have ne256 : b165 ≠ b173 := own_ne (by omega)
    have ne257 : b165 ≠ b235 := own_ne (by omega)
    have F258 := (Arv.other (Arv.keep ((Arv.other (Arv.other V204 W216 ne255) W229 ne256).ext E235) Kp240 (ninS ne257 nin0)) W251 ne201)
    obtain ⟨cl259, Ar259, q259, S259, N259, H259, G259⟩ := id F258
    have hin259 : ¬ ((1 : Int32) < 0 ∨ cl259.slots.size ≤ ((1 : Int32)).toNatClampNeg) := inb_of S259 ⟨by decide, by decide⟩
    obtain ⟨T260, h260, X260, e260, W260, st260⟩ := stD X254 hx hZ e254 Ar259 (j := (1 : Int32)) hin259 (g := (mkF m 76 #[.val (.ref q1), .val (.int z1), .val (.int (4 : Int32)), .val (.int (1 : Int32))] [(.double (9218868437227405312 : UInt64)), (.int (1 : Int32)), (.ref b165)])) rfl rfl (hb hby d2_76)
    refine own_go st260 ?_
    have le_260 : h251.size ≤ h260.size := Nat.le_of_eq W260.size.symm
    have K260 : Keep h0 h260 [q1] := Keep.wr K251 W260 (Or.inr sz206)
    have N260 := Fr.snoc X260 N251 ge205
    have V260 : Arv Z h260 b165 k165 .double (4 : Int32) [(.double (9218868437227405312 : UInt64)), (.double (9218868437227405312 : UInt64)), (.double (0 : UInt64)), (.double (0 : UInt64))] (.double (0 : UInt64)) := Arv.set Ar259 q259 S259 N259 H259 G259 rfl W260 1 rfl (Nat.le_of_ble_eq_true rfl)
    refine own_go (fun _ => XS.aloadN X260.here hx rfl (hb hby d2_77) rfl rfl) ?_
    show ∃ t o, Steps p.tables e below (T260.setTop (mkF m 78 #[.val (.ref q1), .val (.int z1), .val (.int (4 : Int32)), .val (.int (1 : Int32))] [(.ref q1)])) t ∧ _
    have F261 := (Fld.other W260 (Fld.other W251 (Fld.keep (Fld.ext E235 (Fld.other W229 (Fld.other W216 F208 (Or.inl ne219)) (Or.inl ne232))) Kp240 (ninS ne252 nin0)) (Or.inl ne196)) (Or.inl ne207))
    obtain ⟨T262, X262, e262, st262⟩ := getF X260 hx hZ hown (host := "") (Or.inl w_33) Via.refl e260 F261 (g := (mkF m 78 #[.val (.ref q1), .val (.int z1), .val (.int (4 : Int32)), .val (.int (1 : Int32))] [(.ref q1)])) rfl rfl (hb hby d2_78)
    refine own_go st262 ?_
    refine own_go (fun _ => XS.iloadN X262.here hx rfl (hb hby d2_81) rfl) ?_
    refine own_go (fun _ => X262.ldc2Long hx hown (mvT hZ w_54) (g := (mkF m 82 #[.val (.ref q1), .val (.int z1), .val (.int (4 : Int32)), .val (.int (1 : Int32))] [(.int (1 : Int32)), (.ref b169)])) rfl (hb hby d2_82) _) ?_
    have ne263 : b169 ≠ b173 := own_ne (by omega)
    have ne264 : b169 ≠ b235 := own_ne (by omega)
    have F265 := (Arv.other (Arv.other (Arv.keep ((Arv.other V216 W229 ne263).ext E235) Kp240 (ninS ne264 nin0)) W251 ne212) W260 ne213)
    obtain ⟨cl266, Ar266, q266, S266, N266, H266, G266⟩ := id F265
    have hin266 : ¬ ((1 : Int32) < 0 ∨ cl266.slots.size ≤ ((1 : Int32)).toNatClampNeg) := inb_of S266 ⟨by decide, by decide⟩
    obtain ⟨T267, h267, X267, e267, W267, st267⟩ := stJ X262 hx hZ e262 Ar266 (j := (1 : Int32)) hin266 (g := (mkF m 85 #[.val (.ref q1), .val (.int z1), .val (.int (4 : Int32)), .val (.int (1 : Int32))] [(.long (9223372036854775807 : Int64)), (.int (1 : Int32)), (.ref b169)])) rfl rfl (hb hby d2_85)
    refine own_go st267 ?_
    have le_267 : h260.size ≤ h267.size := Nat.le_of_eq W267.size.symm
    have K267 : Keep h0 h267 [q1] := Keep.wr K260 W267 (Or.inr sz218)
    have N267 := Fr.snoc X267 N260 ge217
    have V267 : Arv Z h267 b169 k169 .long (4 : Int32) [(.long (9223372036854775807 : Int64)), (.long (9223372036854775807 : Int64)), (.long (0 : Int64)), (.long (0 : Int64))] (.long (0 : Int64)) := Arv.set Ar266 q266 S266 N266 H266 G266 rfl W267 1 rfl (Nat.le_of_ble_eq_true rfl)
    refine own_go (fun _ => XS.aloadN X267.here hx rfl (hb hby d2_86) rfl rfl) ?_
    have F268 := (Fld.other W267 (Fld.other W260 (Fld.other W251 (Fld.keep (Fld.ext E235 (Fld.other W229 F220 (Or.inl ne232))) Kp240 (ninS ne252 nin0)) (Or.inl ne196)) (Or.inl ne207)) (Or.inl ne219))
    obtain ⟨T269, X269, e269, st269⟩ := getF X267 hx hZ hown (host := "") (Or.inl w_36) Via.refl e267 F268 (g := (mkF m 87 #[.val (.ref q1), .val (.int z1), .val (.int (4 : Int32)), .val (.int (1 : Int32))] [(.ref q1)])) rfl rfl (hb hby d2_87)
    refine own_go st269 ?_
    refine own_go (fun _ => XS.iloadN X269.here hx rfl (hb hby d2_90) rfl) ?_
    refine own_go (fun _ => XS.iloadN X269.here hx rfl (hb hby d2_91) rfl) ?_
    show ∃ t o, Steps p.tables e below (T269.setTop (mkF m 92 #[.val (.ref q1), .val (.int z1), .val (.int (4 : Int32)), .val (.int (1 : Int32))] [(.int (1 : Int32)), (.int (4 : Int32)), (.ref b173)])) t ∧ _
    refine own_go (fun _ => XS.iadd X269.here hx rfl (hb hby d2_92) rfl) ?_
    refine own_go (fun _ => XS.iloadN X269.here hx rfl (hb hby d2_93) rfl) ?_
    have ne270 : b173 ≠ b235 := own_ne (by omega)
    have F271 := (Arv.other (Arv.other (Arv.other (Arv.keep (V229.ext E235) Kp240 (ninS ne270 nin0)) W251 ne224) W260 ne225) W267 ne226)
    obtain ⟨cl272, Ar272, q272, S272, N272, H272, G272⟩ := id F271
    have hin272 : ¬ ((5 : Int32) < 0 ∨ cl272.slots.size ≤ ((5 : Int32)).toNatClampNeg) := inb_of S272 ⟨by decide, by decide⟩
    obtain ⟨T273, h273, X273, e273, W273, st273⟩ := stI X269 hx hZ e269 Ar272 (j := (5 : Int32)) hin272 (g := (mkF m 94 #[.val (.ref q1), .val (.int z1), .val (.int (4 : Int32)), .val (.int (1 : Int32))] [(.int (1 : Int32)), (.int (5 : Int32)), (.ref b173)])) rfl rfl (hb hby d2_94)
    refine own_go st273 ?_
    have le_273 : h267.size ≤ h273.size := Nat.le_of_eq W273.size.symm
    have K273 : Keep h0 h273 [q1] := Keep.wr K267 W273 (Or.inr sz231)
    have N273 := Fr.snoc X273 N267 ge230
    have V273 : Arv Z h273 b173 k173 .int (8 : Int32) [(.int (0 : Int32)), (.int (0 : Int32)), (.int (0 : Int32)), (.int (0 : Int32)), (.int (0 : Int32)), (.int (1 : Int32)), (.int (0 : Int32)), (.int (0 : Int32))] (.int (0 : Int32)) := Arv.set Ar272 q272 S272 N272 H272 G272 rfl W273 5 rfl (Nat.le_of_ble_eq_true rfl)
    refine own_go (fun _ => XS.iinc X273.here hx rfl (hb hby d2_95) rfl (l' := #[.val (.ref q1), .val (.int z1), .val (.int (4 : Int32)), .val (.int (2 : Int32))]) rfl) ?_
    refine own_go (fun _ => XS.goto X273.here hx rfl (pc0 := 98) (pc' := 50) rfl (hb hby d2_98) (by decide) (by decide)) ?_
    refine own_go (fun _ => XS.iloadN X273.here hx rfl (hb hby d2_50) rfl) ?_
    refine own_go (fun _ => XS.iloadN X273.here hx rfl (hb hby d2_51) rfl) ?_
    show ∃ t o, Steps p.tables e below (T273.setTop (mkF m 52 #[.val (.ref q1), .val (.int z1), .val (.int (4 : Int32)), .val (.int (2 : Int32))] [(.int (4 : Int32)), (.int (2 : Int32))])) t ∧ _
    refine own_go (fun _ => XS.icmpNo X273.here hx rfl (hb hby d2_52) rfl (tlt (by decide : (2 : Int32) < (4 : Int32))).2.1) ?_
    refine own_go (fun _ => XS.aloadN X273.here hx rfl (hb hby d2_55) rfl rfl) ?_
    have F274 := (Fld.other W273 (Fld.other W267 (Fld.other W260 (Fld.other W251 (Fld.keep (Fld.ext E235 F233) Kp240 (ninS ne252 nin0)) (Or.inl ne196)) (Or.inl ne207)) (Or.inl ne219)) (Or.inl ne232))
    obtain ⟨T275, X275, e275, st275⟩ := getF X273 hx hZ hown (host := "") (Or.inl w_27) Via.refl e273 F274 (g := (mkF m 56 #[.val (.ref q1), .val (.int z1), .val (.int (4 : Int32)), .val (.int (2 : Int32))] [(.ref q1)])) rfl rfl (hb hby d2_56)
    refine own_go st275 ?_
    refine own_go (fun _ => XS.iloadN X275.here hx rfl (hb hby d2_59) rfl) ?_
    show ∃ t o, Steps p.tables e below (T275.setTop (mkF m 60 #[.val (.ref q1), .val (.int z1), .val (.int (4 : Int32)), .val (.int (2 : Int32))] [(.int (2 : Int32)), (.ref b161)])) t ∧ _
    obtain ⟨T276, h276, X276, e276, E276, A276, D276, -, st276⟩ := newO X275 hx hZ hown w_25 w_38 w_39 e275 (g := (mkF m 60 #[.val (.ref q1), .val (.int z1), .val (.int (4 : Int32)), .val (.int (2 : Int32))] [(.int (2 : Int32)), (.ref b161)])) rfl (hb hby d2_60) (by decide) (by decide)
    obtain ⟨b276, g276⟩ : ∃ z, z = h273.size := ⟨_, rfl⟩
    rw [← g276] at A276 D276 st276
    refine own_go st276 ?_
    have le_276 : h273.size ≤ h276.size := E276.1
    have lt_b276 : b276 < h276.size := A276.lt
    have F_moments_b276 : Fld Z h276 b276 "com/example/holdback/holdback/sim/EventQueue$Stream" "moments" "[D" .null := D276 (Or.inl w_45) (ty := (.array .double)) (by decide)
    have F_places_b276 : Fld Z h276 b276 "com/example/holdback/holdback/sim/EventQueue$Stream" "places" "[J" .null := D276 (Or.inl w_47) (ty := (.array .long)) (by decide)
    have F_actions_b276 : Fld Z h276 b276 "com/example/holdback/holdback/sim/EventQueue$Stream" "actions" "[Ljava/lang/Runnable;" .null := D276 (Or.inl w_51) (ty := (.array (.object "java/lang/Runnable"))) (by decide)
    have F_lastAt_b276 : Fld Z h276 b276 "com/example/holdback/holdback/sim/EventQueue$Stream" "lastAt" "D" (defaultValue .double) := D276 (Or.inl w_85) (ty := .double) (by decide)
    have F_size_b276 : Fld Z h276 b276 "com/example/holdback/holdback/sim/EventQueue$Stream" "size" "I" (.int (0 : Int32)) := D276 (Or.inl w_94) (ty := .int) (by decide)
    have F_first_b276 : Fld Z h276 b276 "com/example/holdback/holdback/sim/EventQueue$Stream" "first" "I" (.int (0 : Int32)) := D276 (Or.inl w_96) (ty := .int) (by decide)
    have K276 : Keep h0 h276 [q1] := Keep.ext K273 E276
    have lt277 : (ac_240 : Nat) < b276 := by omega
    refine own_go (fun _ => XS.dup X276.here hx rfl (hb hby d2_63) rfl rfl) ?_
    show ∃ t o, Steps p.tables e below (T276.setTop (mkF m 64 #[.val (.ref q1), .val (.int z1), .val (.int (4 : Int32)), .val (.int (2 : Int32))] [(.ref b276), (.ref b276), (.int (2 : Int32)), (.ref b161)])) t ∧ _
    have F278 := ((Old.wr (Old.wr (Old.wr (Old.wr (Old.keep F237 Kp240 (allS ge238 all0)) W251 ge193) W260 ge205) W267 ge217) W273 ge230).ext E276)
    have ge279 : n0 ≤ b276 := by omega
    have zl280 : n0 ≤ h276.size := by omega
    obtain ⟨_, _, ⟨T281, L281, k281, n281⟩, -, X281, ⟨Lc281, hQ281, l281, y281, z281⟩, st281⟩ := own_specR X276 hx hZ (y := (⟨"com/example/holdback/holdback/sim/EventQueue$Stream", "<init>", "()V"⟩ : MethodName)) rfl hown w_40 w_41 w_42 (by decide) (backOf (W := 3) (rmSI l Z a0 hw [] b276 h276 n0 zl280 A276 F_moments_b276 F_places_b276 F_actions_b276 F_first_b276 F_size_b276 F_lastAt_b276 F278 ge279) hZ w_42 w_39 (by decide) (by decide)) (g := (mkF m 64 #[.val (.ref q1), .val (.int z1), .val (.int (4 : Int32)), .val (.int (2 : Int32))] [(.ref b276), (.ref b276), (.int (2 : Int32)), (.ref b161)])) rfl (by rw [hml]; rfl) (Steps.refl _) (a := b276) (argsL := []) (rest := [(.ref b276), (.int (2 : Int32)), (.ref b161)]) (lenOf pd__28_29V rfl) rfl (by show 2 * 0 + _ ≤ _; exact Nat.le_of_eq rfl) (hb hby d2_64) (fun _ _ => ⟨rfl, e276, (by decide : 13 + 3 ≤ _), (by decide : 86 + 24 ≤ _)⟩)
    dsimp only [Pt.U, Pt.locs, Pt.cells, Pt.slots] at X281 l281 y281 z281 st281 hQ281
    rw [l281, y281, z281] at X281
    obtain ⟨am_281, ap_281, ac_281, km_281, kp_281, kc_281, rfl, Nq281, Kp281, G281_0, G281_1, G281_2, G281_3, G281_4, G281_5, G281_6, G281_7, G281_8, H281_0, H281_1, H281_2⟩ := hQ281
    have N281 := Fr.app N273 Nq281
    refine own_goT st281 ?_
    have le_281 : h276.size ≤ T281.heap.size := Kp281.1
    have sz282 : h0.size ≤ b276 := by omega
    have K281 : Keep h0 T281.heap [q1] := Keep.trans K276 Kp281 (allS (Or.inr sz282) all0)
    have lt_am_281 : am_281 < T281.heap.size := (G281_6).lt
    have lt_ap_281 : ap_281 < T281.heap.size := (G281_7).lt
    have lt_ac_281 : ac_281 < T281.heap.size := (G281_8).lt
    have lt283 : (b276 : Nat) < am_281 := by omega
    have F285 := (Exa.keep A276 Kp281)
    have cs284 : own_S Z T281.heap b276 (ac_281 + 1) 0 0 := ⟨am_281, ap_281, ac_281, _, _, _, _, _, _, (0 : Int32), (0 : Int32), (0 : Int32), lt283, H281_1, H281_2, Nat.lt_succ_self _, F285, G281_0, G281_1, G281_2, G281_3, G281_4, own_la G281_5, G281_6, G281_7, G281_8, own_gm, own_gp, own_gc, ⟨by decide, by decide⟩, ⟨by decide, by decide⟩, by decide⟩
    have ne286 : b161 ≠ b276 := own_ne (by omega)
    have F287 := (Arv.keep ((Arv.other (Arv.other (Arv.other V251 W260 ne245) W267 ne246) W273 ne247).ext E276) Kp281 (ninS ne286 nin0))
    obtain ⟨cl288, Ar288, q288, S288, N288, H288, G288⟩ := id F287
    have hin288 : ¬ ((2 : Int32) < 0 ∨ cl288.slots.size ≤ ((2 : Int32)).toNatClampNeg) := inb_of S288 ⟨by decide, by decide⟩
    obtain ⟨T289, h289, X289, e289, W289, st289⟩ := stR X281 hx hZ rfl Ar288 (j := (2 : Int32)) hin288 rfl (Sto.ofV Ar288 q288 O161 (Ins.self F285)) (g := (mkF m 67 #[.val (.ref q1), .val (.int z1), .val (.int (4 : Int32)), .val (.int (2 : Int32))] [(.ref b276), (.int (2 : Int32)), (.ref b161)])) rfl rfl (hb hby d2_67)
    refine own_go st289 ?_
    have le_289 : T281.heap.size ≤ h289.size := Nat.le_of_eq W289.size.symm
    have K289 : Keep h0 h289 [q1] := Keep.wr K281 W289 (Or.inr sz194)
    have N289 := Fr.snoc X289 N281 ge193
    have V289 : Arv Z h289 b161 k161 (.object "com/example/holdback/holdback/sim/EventQueue$Stream") (4 : Int32) [(.ref b179), (.ref b235), (.ref b276), .null] .null := Arv.set Ar288 q288 S288 N288 H288 G288 rfl W289 2 rfl (Nat.le_of_ble_eq_true rfl)
    refine own_go (fun _ => XS.aloadN X289.here hx rfl (hb hby d2_68) rfl rfl) ?_
    have ne290 : q1 ≠ b276 := own_ne (by omega)
    have F291 := (Fld.other W289 (Fld.keep (Fld.ext E276 (Fld.other W273 (Fld.other W267 (Fld.other W260 F253 (Or.inl ne207)) (Or.inl ne219)) (Or.inl ne232))) Kp281 (ninS ne290 nin0)) (Or.inl ne196))
    obtain ⟨T292, X292, e292, st292⟩ := getF X289 hx hZ hown (host := "") (Or.inl w_30) Via.refl e289 F291 (g := (mkF m 69 #[.val (.ref q1), .val (.int z1), .val (.int (4 : Int32)), .val (.int (2 : Int32))] [(.ref q1)])) rfl rfl (hb hby d2_69)
    refine own_go st292 ?_
    refine own_go (fun _ => XS.iloadN X292.here hx rfl (hb hby d2_72) rfl) ?_
    refine own_go (fun _ => X292.ldc2DoubleC hx hown (mvT hZ w_53) (g := (mkF m 73 #[.val (.ref q1), .val (.int z1), .val (.int (4 : Int32)), .val (.int (2 : Int32))] [(.int (2 : Int32)), (.ref b165)])) rfl (hb hby d2_73) _) ?_
    have ne293 : b165 ≠ b276 := own_ne (by omega)
    have F294 := (Arv.other (Arv.keep ((Arv.other (Arv.other V260 W267 ne255) W273 ne256).ext E276) Kp281 (ninS ne293 nin0)) W289 ne201)
    obtain ⟨cl295, Ar295, q295, S295, N295, H295, G295⟩ := id F294
    have hin295 : ¬ ((2 : Int32) < 0 ∨ cl295.slots.size ≤ ((2 : Int32)).toNatClampNeg) := inb_of S295 ⟨by decide, by decide⟩
    obtain ⟨T296, h296, X296, e296, W296, st296⟩ := stD X292 hx hZ e292 Ar295 (j := (2 : Int32)) hin295 (g := (mkF m 76 #[.val (.ref q1), .val (.int z1), .val (.int (4 : Int32)), .val (.int (2 : Int32))] [(.double (9218868437227405312 : UInt64)), (.int (2 : Int32)), (.ref b165)])) rfl rfl (hb hby d2_76)
    refine own_go st296 ?_
    have le_296 : h289.size ≤ h296.size := Nat.le_of_eq W296.size.symm
    have K296 : Keep h0 h296 [q1] := Keep.wr K289 W296 (Or.inr sz206)
    have N296 := Fr.snoc X296 N289 ge205
    have V296 : Arv Z h296 b165 k165 .double (4 : Int32) [(.double (9218868437227405312 : UInt64)), (.double (9218868437227405312 : UInt64)), (.double (9218868437227405312 : UInt64)), (.double (0 : UInt64))] (.double (0 : UInt64)) := Arv.set Ar295 q295 S295 N295 H295 G295 rfl W296 2 rfl (Nat.le_of_ble_eq_true rfl)
    refine own_go (fun _ => XS.aloadN X296.here hx rfl (hb hby d2_77) rfl rfl) ?_
    show ∃ t o, Steps p.tables e below (T296.setTop (mkF m 78 #[.val (.ref q1), .val (.int z1), .val (.int (4 : Int32)), .val (.int (2 : Int32))] [(.ref q1)])) t ∧ _
    have F297 := (Fld.other W296 (Fld.other W289 (Fld.keep (Fld.ext E276 (Fld.other W273 (Fld.other W267 F261 (Or.inl ne219)) (Or.inl ne232))) Kp281 (ninS ne290 nin0)) (Or.inl ne196)) (Or.inl ne207))
    obtain ⟨T298, X298, e298, st298⟩ := getF X296 hx hZ hown (host := "") (Or.inl w_33) Via.refl e296 F297 (g := (mkF m 78 #[.val (.ref q1), .val (.int z1), .val (.int (4 : Int32)), .val (.int (2 : Int32))] [(.ref q1)])) rfl rfl (hb hby d2_78)
    refine own_go st298 ?_
    refine own_go (fun _ => XS.iloadN X298.here hx rfl (hb hby d2_81) rfl) ?_
    refine own_go (fun _ => X298.ldc2Long hx hown (mvT hZ w_54) (g := (mkF m 82 #[.val (.ref q1), .val (.int z1), .val (.int (4 : Int32)), .val (.int (2 : Int32))] [(.int (2 : Int32)), (.ref b169)])) rfl (hb hby d2_82) _) ?_
    have ne299 : b169 ≠ b276 := own_ne (by omega)
    have F300 := (Arv.other (Arv.other (Arv.keep ((Arv.other V267 W273 ne263).ext E276) Kp281 (ninS ne299 nin0)) W289 ne212) W296 ne213)
    obtain ⟨cl301, Ar301, q301, S301, N301, H301, G301⟩ := id F300
    have hin301 : ¬ ((2 : Int32) < 0 ∨ cl301.slots.size ≤ ((2 : Int32)).toNatClampNeg) := inb_of S301 ⟨by decide, by decide⟩
    obtain ⟨T302, h302, X302, e302, W302, st302⟩ := stJ X298 hx hZ e298 Ar301 (j := (2 : Int32)) hin301 (g := (mkF m 85 #[.val (.ref q1), .val (.int z1), .val (.int (4 : Int32)), .val (.int (2 : Int32))] [(.long (9223372036854775807 : Int64)), (.int (2 : Int32)), (.ref b169)])) rfl rfl (hb hby d2_85)
    refine own_go st302 ?_
    have le_302 : h296.size ≤ h302.size := Nat.le_of_eq W302.size.symm
    have K302 : Keep h0 h302 [q1] := Keep.wr K296 W302 (Or.inr sz218)
    have N302 := Fr.snoc X302 N296 ge217
    have V302 : Arv Z h302 b169 k169 .long (4 : Int32) [(.long (9223372036854775807 : Int64)), (.long (9223372036854775807 : Int64)), (.long (9223372036854775807 : Int64)), (.long (0 : Int64))] (.long (0 : Int64)) := Arv.set Ar301 q301 S301 N301 H301 G301 rfl W302 2 rfl (Nat.le_of_ble_eq_true rfl)
    refine own_go (fun _ => XS.aloadN X302.here hx rfl (hb hby d2_86) rfl rfl) ?_
    have F303 := (Fld.other W302 (Fld.other W296 (Fld.other W289 (Fld.keep (Fld.ext E276 (Fld.other W273 F268 (Or.inl ne232))) Kp281 (ninS ne290 nin0)) (Or.inl ne196)) (Or.inl ne207)) (Or.inl ne219))
    obtain ⟨T304, X304, e304, st304⟩ := getF X302 hx hZ hown (host := "") (Or.inl w_36) Via.refl e302 F303 (g := (mkF m 87 #[.val (.ref q1), .val (.int z1), .val (.int (4 : Int32)), .val (.int (2 : Int32))] [(.ref q1)])) rfl rfl (hb hby d2_87)
    refine own_go st304 ?_
    refine own_go (fun _ => XS.iloadN X304.here hx rfl (hb hby d2_90) rfl) ?_
    refine own_go (fun _ => XS.iloadN X304.here hx rfl (hb hby d2_91) rfl) ?_
    show ∃ t o, Steps p.tables e below (T304.setTop (mkF m 92 #[.val (.ref q1), .val (.int z1), .val (.int (4 : Int32)), .val (.int (2 : Int32))] [(.int (2 : Int32)), (.int (4 : Int32)), (.ref b173)])) t ∧ _
    refine own_go (fun _ => XS.iadd X304.here hx rfl (hb hby d2_92) rfl) ?_
    refine own_go (fun _ => XS.iloadN X304.here hx rfl (hb hby d2_93) rfl) ?_
    have ne305 : b173 ≠ b276 := own_ne (by omega)
    have F306 := (Arv.other (Arv.other (Arv.other (Arv.keep (V273.ext E276) Kp281 (ninS ne305 nin0)) W289 ne224) W296 ne225) W302 ne226)
    obtain ⟨cl307, Ar307, q307, S307, N307, H307, G307⟩ := id F306
    have hin307 : ¬ ((6 : Int32) < 0 ∨ cl307.slots.size ≤ ((6 : Int32)).toNatClampNeg) := inb_of S307 ⟨by decide, by decide⟩
    obtain ⟨T308, h308, X308, e308, W308, st308⟩ := stI X304 hx hZ e304 Ar307 (j := (6 : Int32)) hin307 (g := (mkF m 94 #[.val (.ref q1), .val (.int z1), .val (.int (4 : Int32)), .val (.int (2 : Int32))] [(.int (2 : Int32)), (.int (6 : Int32)), (.ref b173)])) rfl rfl (hb hby d2_94)
    refine own_go st308 ?_
    have le_308 : h302.size ≤ h308.size := Nat.le_of_eq W308.size.symm
    have K308 : Keep h0 h308 [q1] := Keep.wr K302 W308 (Or.inr sz231)
    have N308 := Fr.snoc X308 N302 ge230
    have V308 : Arv Z h308 b173 k173 .int (8 : Int32) [(.int (0 : Int32)), (.int (0 : Int32)), (.int (0 : Int32)), (.int (0 : Int32)), (.int (0 : Int32)), (.int (1 : Int32)), (.int (2 : Int32)), (.int (0 : Int32))] (.int (0 : Int32)) := Arv.set Ar307 q307 S307 N307 H307 G307 rfl W308 6 rfl (Nat.le_of_ble_eq_true rfl)
    refine own_go (fun _ => XS.iinc X308.here hx rfl (hb hby d2_95) rfl (l' := #[.val (.ref q1), .val (.int z1), .val (.int (4 : Int32)), .val (.int (3 : Int32))]) rfl) ?_
    refine own_go (fun _ => XS.goto X308.here hx rfl (pc0 := 98) (pc' := 50) rfl (hb hby d2_98) (by decide) (by decide)) ?_
    refine own_go (fun _ => XS.iloadN X308.here hx rfl (hb hby d2_50) rfl) ?_
    refine own_go (fun _ => XS.iloadN X308.here hx rfl (hb hby d2_51) rfl) ?_
    show ∃ t o, Steps p.tables e below (T308.setTop (mkF m 52 #[.val (.ref q1), .val (.int z1), .val (.int (4 : Int32)), .val (.int (3 : Int32))] [(.int (4 : Int32)), (.int (3 : Int32))])) t ∧ _
    refine own_go (fun _ => XS.icmpNo X308.here hx rfl (hb hby d2_52) rfl (tlt (by decide : (3 : Int32) < (4 : Int32))).2.1) ?_
    refine own_go (fun _ => XS.aloadN X308.here hx rfl (hb hby d2_55) rfl rfl) ?_
    have F309 := (Fld.other W308 (Fld.other W302 (Fld.other W296 (Fld.other W289 (Fld.keep (Fld.ext E276 F274) Kp281 (ninS ne290 nin0)) (Or.inl ne196)) (Or.inl ne207)) (Or.inl ne219)) (Or.inl ne232))
    obtain ⟨T310, X310, e310, st310⟩ := getF X308 hx hZ hown (host := "") (Or.inl w_27) Via.refl e308 F309 (g := (mkF m 56 #[.val (.ref q1), .val (.int z1), .val (.int (4 : Int32)), .val (.int (3 : Int32))] [(.ref q1)])) rfl rfl (hb hby d2_56)
    refine own_go st310 ?_
    refine own_go (fun _ => XS.iloadN X310.here hx rfl (hb hby d2_59) rfl) ?_
    show ∃ t o, Steps p.tables e below (T310.setTop (mkF m 60 #[.val (.ref q1), .val (.int z1), .val (.int (4 : Int32)), .val (.int (3 : Int32))] [(.int (3 : Int32)), (.ref b161)])) t ∧ _
    obtain ⟨T311, h311, X311, e311, E311, A311, D311, -, st311⟩ := newO X310 hx hZ hown w_25 w_38 w_39 e310 (g := (mkF m 60 #[.val (.ref q1), .val (.int z1), .val (.int (4 : Int32)), .val (.int (3 : Int32))] [(.int (3 : Int32)), (.ref b161)])) rfl (hb hby d2_60) (by decide) (by decide)
    obtain ⟨b311, g311⟩ : ∃ z, z = h308.size := ⟨_, rfl⟩
    rw [← g311] at A311 D311 st311
    refine own_go st311 ?_
    have le_311 : h308.size ≤ h311.size := E311.1
    have lt_b311 : b311 < h311.size := A311.lt
    have F_moments_b311 : Fld Z h311 b311 "com/example/holdback/holdback/sim/EventQueue$Stream" "moments" "[D" .null := D311 (Or.inl w_45) (ty := (.array .double)) (by decide)
    have F_places_b311 : Fld Z h311 b311 "com/example/holdback/holdback/sim/EventQueue$Stream" "places" "[J" .null := D311 (Or.inl w_47) (ty := (.array .long)) (by decide)
    have F_actions_b311 : Fld Z h311 b311 "com/example/holdback/holdback/sim/EventQueue$Stream" "actions" "[Ljava/lang/Runnable;" .null := D311 (Or.inl w_51) (ty := (.array (.object "java/lang/Runnable"))) (by decide)
    have F_lastAt_b311 : Fld Z h311 b311 "com/example/holdback/holdback/sim/EventQueue$Stream" "lastAt" "D" (defaultValue .double) := D311 (Or.inl w_85) (ty := .double) (by decide)
    have F_size_b311 : Fld Z h311 b311 "com/example/holdback/holdback/sim/EventQueue$Stream" "size" "I" (.int (0 : Int32)) := D311 (Or.inl w_94) (ty := .int) (by decide)
    have F_first_b311 : Fld Z h311 b311 "com/example/holdback/holdback/sim/EventQueue$Stream" "first" "I" (.int (0 : Int32)) := D311 (Or.inl w_96) (ty := .int) (by decide)
    have K311 : Keep h0 h311 [q1] := Keep.ext K308 E311
    have lt312 : (ac_281 : Nat) < b311 := by omega
    refine own_go (fun _ => XS.dup X311.here hx rfl (hb hby d2_63) rfl rfl) ?_
    show ∃ t o, Steps p.tables e below (T311.setTop (mkF m 64 #[.val (.ref q1), .val (.int z1), .val (.int (4 : Int32)), .val (.int (3 : Int32))] [(.ref b311), (.ref b311), (.int (3 : Int32)), (.ref b161)])) t ∧ _
    have F313 := ((Old.wr (Old.wr (Old.wr (Old.wr (Old.keep F278 Kp281 (allS ge279 all0)) W289 ge193) W296 ge205) W302 ge217) W308 ge230).ext E311)
    have ge314 : n0 ≤ b311 := by omega
    have zl315 : n0 ≤ h311.size := by omega
    obtain ⟨_, _, ⟨T316, L316, k316, n316⟩, -, X316, ⟨Lc316, hQ316, l316, y316, z316⟩, st316⟩ := own_specR X311 hx hZ (y := (⟨"com/example/holdback/holdback/sim/EventQueue$Stream", "<init>", "()V"⟩ : MethodName)) rfl hown w_40 w_41 w_42 (by decide) (backOf (W := 3) (rmSI l Z a0 hw [] b311 h311 n0 zl315 A311 F_moments_b311 F_places_b311 F_actions_b311 F_first_b311 F_size_b311 F_lastAt_b311 F313 ge314) hZ w_42 w_39 (by decide) (by decide)) (g := (mkF m 64 #[.val (.ref q1), .val (.int z1), .val (.int (4 : Int32)), .val (.int (3 : Int32))] [(.ref b311), (.ref b311), (.int (3 : Int32)), (.ref b161)])) rfl (by rw [hml]; rfl) (Steps.refl _) (a := b311) (argsL := []) (rest := [(.ref b311), (.int (3 : Int32)), (.ref b161)]) (lenOf pd__28_29V rfl) rfl (by show 2 * 0 + _ ≤ _; exact Nat.le_of_eq rfl) (hb hby d2_64) (fun _ _ => ⟨rfl, e311, (by decide : 17 + 3 ≤ _), (by decide : 116 + 24 ≤ _)⟩)
    dsimp only [Pt.U, Pt.locs, Pt.cells, Pt.slots] at X316 l316 y316 z316 st316 hQ316
    rw [l316, y316, z316] at X316
    obtain ⟨am_316, ap_316, ac_316, km_316, kp_316, kc_316, rfl, Nq316, Kp316, G316_0, G316_1, G316_2, G316_3, G316_4, G316_5, G316_6, G316_7, G316_8, H316_0, H316_1, H316_2⟩ := hQ316
    have N316 := Fr.app N308 Nq316
    refine own_goT st316 ?_
    have le_316 : h311.size ≤ T316.heap.size := Kp316.1
    have sz317 : h0.size ≤ b311 := by omega
    have K316 : Keep h0 T316.heap [q1] := Keep.trans K311 Kp316 (allS (Or.inr sz317) all0)
    have lt_am_316 : am_316 < T316.heap.size := (G316_6).lt
    have lt_ap_316 : ap_316 < T316.heap.size := (G316_7).lt
    have lt_ac_316 : ac_316 < T316.heap.size := (G316_8).lt
    have lt318 : (b311 : Nat) < am_316 := by omega
    have F320 := (Exa.keep A311 Kp316)
    have cs319 : own_S Z T316.heap b311 (ac_316 + 1) 0 0 := ⟨am_316, ap_316, ac_316, _, _, _, _, _, _, (0 : Int32), (0 : Int32), (0 : Int32), lt318, H316_1, H316_2, Nat.lt_succ_self _, F320, G316_0, G316_1, G316_2, G316_3, G316_4, own_la G316_5, G316_6, G316_7, G316_8, own_gm, own_gp, own_gc, ⟨by decide, by decide⟩, ⟨by decide, by decide⟩, by decide⟩
    have ne321 : b161 ≠ b311 := own_ne (by omega)
    have F322 := (Arv.keep ((Arv.other (Arv.other (Arv.other V289 W296 ne245) W302 ne246) W308 ne247).ext E311) Kp316 (ninS ne321 nin0))
    obtain ⟨cl323, Ar323, q323, S323, N323, H323, G323⟩ := id F322
    have hin323 : ¬ ((3 : Int32) < 0 ∨ cl323.slots.size ≤ ((3 : Int32)).toNatClampNeg) := inb_of S323 ⟨by decide, by decide⟩
    obtain ⟨T324, h324, X324, e324, W324, st324⟩ := stR X316 hx hZ rfl Ar323 (j := (3 : Int32)) hin323 rfl (Sto.ofV Ar323 q323 O161 (Ins.self F320)) (g := (mkF m 67 #[.val (.ref q1), .val (.int z1), .val (.int (4 : Int32)), .val (.int (3 : Int32))] [(.ref b311), (.int (3 : Int32)), (.ref b161)])) rfl rfl (hb hby d2_67)
    refine own_go st324 ?_
    have le_324 : T316.heap.size ≤ h324.size := Nat.le_of_eq W324.size.symm
    have K324 : Keep h0 h324 [q1] := Keep.wr K316 W324 (Or.inr sz194)
    have N324 := Fr.snoc X324 N316 ge193
    have V324 : Arv Z h324 b161 k161 (.object "com/example/holdback/holdback/sim/EventQueue$Stream") (4 : Int32) [(.ref b179), (.ref b235), (.ref b276), (.ref b311)] .null := Arv.set Ar323 q323 S323 N323 H323 G323 rfl W324 3 rfl (Nat.le_of_ble_eq_true rfl)
    refine own_go (fun _ => XS.aloadN X324.here hx rfl (hb hby d2_68) rfl rfl) ?_
    have ne325 : q1 ≠ b311 := own_ne (by omega)
    have F326 := (Fld.other W324 (Fld.keep (Fld.ext E311 (Fld.other W308 (Fld.other W302 (Fld.other W296 F291 (Or.inl ne207)) (Or.inl ne219)) (Or.inl ne232))) Kp316 (ninS ne325 nin0)) (Or.inl ne196))
    obtain ⟨T327, X327, e327, st327⟩ := getF X324 hx hZ hown (host := "") (Or.inl w_30) Via.refl e324 F326 (g := (mkF m 69 #[.val (.ref q1), .val (.int z1), .val (.int (4 : Int32)), .val (.int (3 : Int32))] [(.ref q1)])) rfl rfl (hb hby d2_69)
    refine own_go st327 ?_
    refine own_go (fun _ => XS.iloadN X327.here hx rfl (hb hby d2_72) rfl) ?_
    refine own_go (fun _ => X327.ldc2DoubleC hx hown (mvT hZ w_53) (g := (mkF m 73 #[.val (.ref q1), .val (.int z1), .val (.int (4 : Int32)), .val (.int (3 : Int32))] [(.int (3 : Int32)), (.ref b165)])) rfl (hb hby d2_73) _) ?_
    have ne328 : b165 ≠ b311 := own_ne (by omega)
    have F329 := (Arv.other (Arv.keep ((Arv.other (Arv.other V296 W302 ne255) W308 ne256).ext E311) Kp316 (ninS ne328 nin0)) W324 ne201)
    obtain ⟨cl330, Ar330, q330, S330, N330, H330, G330⟩ := id F329
    have hin330 : ¬ ((3 : Int32) < 0 ∨ cl330.slots.size ≤ ((3 : Int32)).toNatClampNeg) := inb_of S330 ⟨by decide, by decide⟩
    obtain ⟨T331, h331, X331, e331, W331, st331⟩ := stD X327 hx hZ e327 Ar330 (j := (3 : Int32)) hin330 (g := (mkF m 76 #[.val (.ref q1), .val (.int z1), .val (.int (4 : Int32)), .val (.int (3 : Int32))] [(.double (9218868437227405312 : UInt64)), (.int (3 : Int32)), (.ref b165)])) rfl rfl (hb hby d2_76)
    refine own_go st331 ?_
    have le_331 : h324.size ≤ h331.size := Nat.le_of_eq W331.size.symm
    have K331 : Keep h0 h331 [q1] := Keep.wr K324 W331 (Or.inr sz206)
    have N331 := Fr.snoc X331 N324 ge205
    have V331 : Arv Z h331 b165 k165 .double (4 : Int32) [(.double (9218868437227405312 : UInt64)), (.double (9218868437227405312 : UInt64)), (.double (9218868437227405312 : UInt64)), (.double (9218868437227405312 : UInt64))] (.double (0 : UInt64)) := Arv.set Ar330 q330 S330 N330 H330 G330 rfl W331 3 rfl (Nat.le_of_ble_eq_true rfl)
    refine own_go (fun _ => XS.aloadN X331.here hx rfl (hb hby d2_77) rfl rfl) ?_
    show ∃ t o, Steps p.tables e below (T331.setTop (mkF m 78 #[.val (.ref q1), .val (.int z1), .val (.int (4 : Int32)), .val (.int (3 : Int32))] [(.ref q1)])) t ∧ _
    have F332 := (Fld.other W331 (Fld.other W324 (Fld.keep (Fld.ext E311 (Fld.other W308 (Fld.other W302 F297 (Or.inl ne219)) (Or.inl ne232))) Kp316 (ninS ne325 nin0)) (Or.inl ne196)) (Or.inl ne207))
    obtain ⟨T333, X333, e333, st333⟩ := getF X331 hx hZ hown (host := "") (Or.inl w_33) Via.refl e331 F332 (g := (mkF m 78 #[.val (.ref q1), .val (.int z1), .val (.int (4 : Int32)), .val (.int (3 : Int32))] [(.ref q1)])) rfl rfl (hb hby d2_78)
    refine own_go st333 ?_
    refine own_go (fun _ => XS.iloadN X333.here hx rfl (hb hby d2_81) rfl) ?_
    refine own_go (fun _ => X333.ldc2Long hx hown (mvT hZ w_54) (g := (mkF m 82 #[.val (.ref q1), .val (.int z1), .val (.int (4 : Int32)), .val (.int (3 : Int32))] [(.int (3 : Int32)), (.ref b169)])) rfl (hb hby d2_82) _) ?_
    have ne334 : b169 ≠ b311 := own_ne (by omega)
    have F335 := (Arv.other (Arv.other (Arv.keep ((Arv.other V302 W308 ne263).ext E311) Kp316 (ninS ne334 nin0)) W324 ne212) W331 ne213)
    obtain ⟨cl336, Ar336, q336, S336, N336, H336, G336⟩ := id F335
    have hin336 : ¬ ((3 : Int32) < 0 ∨ cl336.slots.size ≤ ((3 : Int32)).toNatClampNeg) := inb_of S336 ⟨by decide, by decide⟩
    obtain ⟨T337, h337, X337, e337, W337, st337⟩ := stJ X333 hx hZ e333 Ar336 (j := (3 : Int32)) hin336 (g := (mkF m 85 #[.val (.ref q1), .val (.int z1), .val (.int (4 : Int32)), .val (.int (3 : Int32))] [(.long (9223372036854775807 : Int64)), (.int (3 : Int32)), (.ref b169)])) rfl rfl (hb hby d2_85)
    refine own_go st337 ?_
    have le_337 : h331.size ≤ h337.size := Nat.le_of_eq W337.size.symm
    have K337 : Keep h0 h337 [q1] := Keep.wr K331 W337 (Or.inr sz218)
    have N337 := Fr.snoc X337 N331 ge217
    have V337 : Arv Z h337 b169 k169 .long (4 : Int32) [(.long (9223372036854775807 : Int64)), (.long (9223372036854775807 : Int64)), (.long (9223372036854775807 : Int64)), (.long (9223372036854775807 : Int64))] (.long (0 : Int64)) := Arv.set Ar336 q336 S336 N336 H336 G336 rfl W337 3 rfl (Nat.le_of_ble_eq_true rfl)
    refine own_go (fun _ => XS.aloadN X337.here hx rfl (hb hby d2_86) rfl rfl) ?_
    have F338 := (Fld.other W337 (Fld.other W331 (Fld.other W324 (Fld.keep (Fld.ext E311 (Fld.other W308 F303 (Or.inl ne232))) Kp316 (ninS ne325 nin0)) (Or.inl ne196)) (Or.inl ne207)) (Or.inl ne219))
    obtain ⟨T339, X339, e339, st339⟩ := getF X337 hx hZ hown (host := "") (Or.inl w_36) Via.refl e337 F338 (g := (mkF m 87 #[.val (.ref q1), .val (.int z1), .val (.int (4 : Int32)), .val (.int (3 : Int32))] [(.ref q1)])) rfl rfl (hb hby d2_87)
    refine own_go st339 ?_
    refine own_go (fun _ => XS.iloadN X339.here hx rfl (hb hby d2_90) rfl) ?_
    refine own_go (fun _ => XS.iloadN X339.here hx rfl (hb hby d2_91) rfl) ?_
    show ∃ t o, Steps p.tables e below (T339.setTop (mkF m 92 #[.val (.ref q1), .val (.int z1), .val (.int (4 : Int32)), .val (.int (3 : Int32))] [(.int (3 : Int32)), (.int (4 : Int32)), (.ref b173)])) t ∧ _
    refine own_go (fun _ => XS.iadd X339.here hx rfl (hb hby d2_92) rfl) ?_
    refine own_go (fun _ => XS.iloadN X339.here hx rfl (hb hby d2_93) rfl) ?_
    have ne340 : b173 ≠ b311 := own_ne (by omega)
    have F341 := (Arv.other (Arv.other (Arv.other (Arv.keep (V308.ext E311) Kp316 (ninS ne340 nin0)) W324 ne224) W331 ne225) W337 ne226)
    obtain ⟨cl342, Ar342, q342, S342, N342, H342, G342⟩ := id F341
    have hin342 : ¬ ((7 : Int32) < 0 ∨ cl342.slots.size ≤ ((7 : Int32)).toNatClampNeg) := inb_of S342 ⟨by decide, by decide⟩
    obtain ⟨T343, h343, X343, e343, W343, st343⟩ := stI X339 hx hZ e339 Ar342 (j := (7 : Int32)) hin342 (g := (mkF m 94 #[.val (.ref q1), .val (.int z1), .val (.int (4 : Int32)), .val (.int (3 : Int32))] [(.int (3 : Int32)), (.int (7 : Int32)), (.ref b173)])) rfl rfl (hb hby d2_94)
    refine own_go st343 ?_
    have le_343 : h337.size ≤ h343.size := Nat.le_of_eq W343.size.symm
    have K343 : Keep h0 h343 [q1] := Keep.wr K337 W343 (Or.inr sz231)
    have N343 := Fr.snoc X343 N337 ge230
    have V343 : Arv Z h343 b173 k173 .int (8 : Int32) [(.int (0 : Int32)), (.int (0 : Int32)), (.int (0 : Int32)), (.int (0 : Int32)), (.int (0 : Int32)), (.int (1 : Int32)), (.int (2 : Int32)), (.int (3 : Int32))] (.int (0 : Int32)) := Arv.set Ar342 q342 S342 N342 H342 G342 rfl W343 7 rfl (Nat.le_of_ble_eq_true rfl)
    refine own_go (fun _ => XS.iinc X343.here hx rfl (hb hby d2_95) rfl (l' := #[.val (.ref q1), .val (.int z1), .val (.int (4 : Int32)), .val (.int (4 : Int32))]) rfl) ?_
    refine own_go (fun _ => XS.goto X343.here hx rfl (pc0 := 98) (pc' := 50) rfl (hb hby d2_98) (by decide) (by decide)) ?_
    refine own_go (fun _ => XS.iloadN X343.here hx rfl (hb hby d2_50) rfl) ?_
    refine own_go (fun _ => XS.iloadN X343.here hx rfl (hb hby d2_51) rfl) ?_
    show ∃ t o, Steps p.tables e below (T343.setTop (mkF m 52 #[.val (.ref q1), .val (.int z1), .val (.int (4 : Int32)), .val (.int (4 : Int32))] [(.int (4 : Int32)), (.int (4 : Int32))])) t ∧ _
    refine own_go (fun _ => XS.icmpYes X343.here hx rfl (pc0 := 52) (pc' := 101) rfl (hb hby d2_52) rfl (flt (by decide : ¬ ((4 : Int32) < (4 : Int32)))).2.1 (by decide) (by decide)) ?_
    refine own_go (fun _ => XS.iloadN X343.here hx rfl (hb hby d2_101) rfl) ?_
    refine own_go (fun _ => XS.iconst X343.here hx rfl (hb hby d2_102)) ?_
    refine own_go (fun _ => XS.isub X343.here hx rfl (hb hby d2_103) rfl) ?_
    refine own_go (fun _ => XS.istoreN X343.here hx rfl (hb hby d2_104) rfl (l' := #[.val (.ref q1), .val (.int z1), .val (.int (4 : Int32)), .val (.int (3 : Int32))]) rfl) ?_
    have Gi344 : own_G own_pd (.double (0 : UInt64)) (4 : Int32) [(.double (9218868437227405312 : UInt64)), (.double (9218868437227405312 : UInt64)), (.double (9218868437227405312 : UInt64)), (.double (9218868437227405312 : UInt64))] := own_G.all rfl (own_cS ⟨_, rfl, own_inf⟩ (own_cS ⟨_, rfl, own_inf⟩ (own_cS ⟨_, rfl, own_inf⟩ (own_cS ⟨_, rfl, own_inf⟩ own_c0))))
    have Gi345 : own_G own_pj (.long (0 : Int64)) (4 : Int32) [(.long (9223372036854775807 : Int64)), (.long (9223372036854775807 : Int64)), (.long (9223372036854775807 : Int64)), (.long (9223372036854775807 : Int64))] := own_G.all rfl (own_cS ⟨_, rfl⟩ (own_cS ⟨_, rfl⟩ (own_cS ⟨_, rfl⟩ (own_cS ⟨_, rfl⟩ own_c0))))
    have Gi346 : own_G (own_pw (4 : Int32)) (.int (0 : Int32)) (8 : Int32) [(.int (0 : Int32)), (.int (0 : Int32)), (.int (0 : Int32)), (.int (0 : Int32)), (.int (0 : Int32)), (.int (1 : Int32)), (.int (2 : Int32)), (.int (3 : Int32))] := own_G.all rfl (own_cS ⟨_, rfl, by decide, by decide⟩ (own_cS ⟨_, rfl, by decide, by decide⟩ (own_cS ⟨_, rfl, by decide, by decide⟩ (own_cS ⟨_, rfl, by decide, by decide⟩ (own_cS ⟨_, rfl, by decide, by decide⟩ (own_cS ⟨_, rfl, by decide, by decide⟩ (own_cS ⟨_, rfl, by decide, by decide⟩ (own_cS ⟨_, rfl, by decide, by decide⟩ own_c0))))))))
    have hN347 : own_N (4 : Int32) (8 : Int32) := (Or.inr (Or.inl ⟨rfl, rfl⟩))
    refine own_go (fun _ => XS.iloadN X343.here hx rfl (hb hby d2_105) rfl) ?_
    show ∃ t o, Steps p.tables e below (T343.setTop (mkF m 106 #[.val (.ref q1), .val (.int z1), .val (.int (4 : Int32)), .val (.int (3 : Int32))] [(.int (3 : Int32))])) t ∧ _
    refine own_go (fun _ => XS.ifNo X343.here hx rfl (hb hby d2_106) rfl ((if0 _ _).trans (tlt (by decide : (0 : Int32) < (3 : Int32))).2.2.2)) ?_
    refine own_go (fun _ => XS.aloadN X343.here hx rfl (hb hby d2_109) rfl rfl) ?_
    refine own_go (fun _ => XS.iloadN X343.here hx rfl (hb hby d2_110) rfl) ?_
    show ∃ t o, Steps p.tables e below (T343.setTop (mkF m 111 #[.val (.ref q1), .val (.int z1), .val (.int (4 : Int32)), .val (.int (3 : Int32))] [(.int (3 : Int32)), (.ref q1)])) t ∧ _
    have F348 := (Exa.wr W343 (Exa.wr W337 (Exa.wr W331 (Exa.wr W324 (Exa.keep (Exa.ext E311 (Exa.wr W308 (Exa.wr W302 (Exa.wr W296 (Exa.wr W289 (Exa.keep (Exa.ext E276 (Exa.wr W273 (Exa.wr W267 (Exa.wr W260 (Exa.wr W251 (Exa.keep (Exa.ext E235 (Exa.wr W229 (Exa.wr W216 (Exa.wr W204 (Exa.wr W192 (Exa.keep (Exa.ext E179 (Exa.wr W176 F174)) Kp183)))))) Kp240)))))) Kp281)))))) Kp316)))))
    have F349 := (Fld.other W343 (Fld.other W337 (Fld.other W331 F326 (Or.inl ne207)) (Or.inl ne219)) (Or.inl ne232))
    have F350 := (Fld.other W343 (Fld.other W337 F332 (Or.inl ne219)) (Or.inl ne232))
    have F351 := (Fld.other W343 F338 (Or.inl ne232))
    have F352 := (Arv.other (Arv.other V331 W337 ne255) W343 ne256)
    have F353 := (Arv.other V337 W343 ne263)
    have F354 := (Old.wr (Old.wr (Old.wr (Old.wr (Old.keep F313 Kp316 (allS ge314 all0)) W324 ge193) W331 ge205) W337 ge217) W343 ge230)
    have zl355 : n0 ≤ h343.size := by omega
    obtain ⟨cq356, q356, q356'⟩ := F348.cell
    obtain ⟨_, _, ⟨T356, L356, k356, n356⟩, -, X356, ⟨Lc356, hQ356, l356, y356, z356⟩, st356⟩ := X343.privateBack hx (y := (⟨"com/example/holdback/holdback/sim/EventQueue", "play", "(I)V"⟩ : MethodName)) hown (mvT hZ w_55) (mvT hZ w_56) (mvT hZ (own_selp (y := (⟨"com/example/holdback/holdback/sim/EventQueue", "play", "(I)V"⟩ : MethodName)) w_75 rfl w_57 w_56 (by decide))) (Cond.privateMethod_at (mvP hZ w_57 (args := #[]))) (mvT hZ w_58) (by decide) (backOf (W := 0) (rmPlay l Z a0 hw [] q1 b165 b169 b173 k165 k169 k173 ([(.double (9218868437227405312 : UInt64)), (.double (9218868437227405312 : UInt64)), (.double (9218868437227405312 : UInt64)), (.double (9218868437227405312 : UInt64))]) ([(.long (9223372036854775807 : Int64)), (.long (9223372036854775807 : Int64)), (.long (9223372036854775807 : Int64)), (.long (9223372036854775807 : Int64))]) ([(.int (0 : Int32)), (.int (0 : Int32)), (.int (0 : Int32)), (.int (0 : Int32)), (.int (0 : Int32)), (.int (1 : Int32)), (.int (2 : Int32)), (.int (3 : Int32))]) (4 : Int32) (8 : Int32) (3 : Int32) h343 n0 zl355 F348 F349 F350 F351 F352 F353 V343 F354 Gi344 Gi345 Gi346 hN347 (by decide) (by decide) (by omega) (by omega) (by omega) (by omega)) hZ w_58 w_6 (by decide) (by decide)) (g := (mkF m 111 #[.val (.ref q1), .val (.int z1), .val (.int (4 : Int32)), .val (.int (3 : Int32))] [(.int (3 : Int32)), (.ref q1)])) rfl (by rw [hml]; rfl) (Steps.refl _) (a := q1) (by rw [e343]; exact q356) q356' (argsL := [(.int (3 : Int32))]) (rest := []) (lenOf pd__28I_29V rfl) rfl (by show 2 * 0 + _ ≤ _; exact Nat.le_of_eq rfl) (hb hby d2_111) (fun _ _ => ⟨rfl, e343, (by decide : 20 + 0 ≤ _), (by decide : 140 + 0 ≤ _)⟩)
    dsimp only [Pt.U, Pt.locs, Pt.cells, Pt.slots] at X356 l356 y356 z356 st356 hQ356
    rw [l356, y356, z356] at X356
    obtain ⟨wl2_356, rfl, Nq356, Kp356, G356_0, H356_0⟩ := hQ356
    have N356 := Fr.app N343 Nq356
    refine own_goT st356 ?_
    have le_356 : h343.size ≤ T356.heap.size := Kp356.1
    have K356 : Keep h0 T356.heap [q1] := Keep.trans K343 Kp356 (allS (Or.inr sz231) all0)
    refine own_go (fun _ => XS.iinc X356.here hx rfl (hb hby d2_114) rfl (l' := #[.val (.ref q1), .val (.int z1), .val (.int (4 : Int32)), .val (.int (2 : Int32))]) rfl) ?_
    refine own_go (fun _ => XS.goto X356.here hx rfl (pc0 := 117) (pc' := 105) rfl (hb hby d2_117) (by decide) (by decide)) ?_
    refine own_go (fun _ => XS.iloadN X356.here hx rfl (hb hby d2_105) rfl) ?_
    show ∃ t o, Steps p.tables e below (T356.setTop (mkF m 106 #[.val (.ref q1), .val (.int z1), .val (.int (4 : Int32)), .val (.int (2 : Int32))] [(.int (2 : Int32))])) t ∧ _
    refine own_go (fun _ => XS.ifNo X356.here hx rfl (hb hby d2_106) rfl ((if0 _ _).trans (tlt (by decide : (0 : Int32) < (2 : Int32))).2.2.2)) ?_
    refine own_go (fun _ => XS.aloadN X356.here hx rfl (hb hby d2_109) rfl rfl) ?_
    refine own_go (fun _ => XS.iloadN X356.here hx rfl (hb hby d2_110) rfl) ?_
    show ∃ t o, Steps p.tables e below (T356.setTop (mkF m 111 #[.val (.ref q1), .val (.int z1), .val (.int (4 : Int32)), .val (.int (2 : Int32))] [(.int (2 : Int32)), (.ref q1)])) t ∧ _
    have F357 := (Exa.keep F348 Kp356)
    have F358 := (Fld.keep F349 Kp356 (ninS ne232 nin0))
    have F359 := (Fld.keep F350 Kp356 (ninS ne232 nin0))
    have F360 := (Fld.keep F351 Kp356 (ninS ne232 nin0))
    have F361 := (Arv.keep F352 Kp356 (ninS ne256 nin0))
    have F362 := (Arv.keep F353 Kp356 (ninS ne263 nin0))
    have F363 := (Old.keep F354 Kp356 (allS ge230 all0))
    have zl364 : n0 ≤ T356.heap.size := by omega
    obtain ⟨cq365, q365, q365'⟩ := F357.cell
    obtain ⟨_, _, ⟨T365, L365, k365, n365⟩, -, X365, ⟨Lc365, hQ365, l365, y365, z365⟩, st365⟩ := X356.privateBack hx (y := (⟨"com/example/holdback/holdback/sim/EventQueue", "play", "(I)V"⟩ : MethodName)) hown (mvT hZ w_55) (mvT hZ w_56) (mvT hZ (own_selp (y := (⟨"com/example/holdback/holdback/sim/EventQueue", "play", "(I)V"⟩ : MethodName)) w_75 rfl w_57 w_56 (by decide))) (Cond.privateMethod_at (mvP hZ w_57 (args := #[]))) (mvT hZ w_58) (by decide) (backOf (W := 0) (rmPlay l Z a0 hw [] q1 b165 b169 b173 k165 k169 k173 ([(.double (9218868437227405312 : UInt64)), (.double (9218868437227405312 : UInt64)), (.double (9218868437227405312 : UInt64)), (.double (9218868437227405312 : UInt64))]) ([(.long (9223372036854775807 : Int64)), (.long (9223372036854775807 : Int64)), (.long (9223372036854775807 : Int64)), (.long (9223372036854775807 : Int64))]) wl2_356 (4 : Int32) (8 : Int32) (2 : Int32) T356.heap n0 zl364 F357 F358 F359 F360 F361 F362 G356_0 F363 Gi344 Gi345 H356_0 hN347 (by decide) (by decide) (by omega) (by omega) (by omega) (by omega)) hZ w_58 w_6 (by decide) (by decide)) (g := (mkF m 111 #[.val (.ref q1), .val (.int z1), .val (.int (4 : Int32)), .val (.int (2 : Int32))] [(.int (2 : Int32)), (.ref q1)])) rfl (by rw [hml]; rfl) (Steps.refl _) (a := q1) q365 q365' (argsL := [(.int (2 : Int32))]) (rest := []) (lenOf pd__28I_29V rfl) rfl (by show 2 * 0 + _ ≤ _; exact Nat.le_of_eq rfl) (hb hby d2_111) (fun _ _ => ⟨rfl, rfl, (by decide : 20 + 0 ≤ _), (by decide : 140 + 0 ≤ _)⟩)
    dsimp only [Pt.U, Pt.locs, Pt.cells, Pt.slots] at X365 l365 y365 z365 st365 hQ365
    rw [l365, y365, z365] at X365
    obtain ⟨wl2_365, rfl, Nq365, Kp365, G365_0, H365_0⟩ := hQ365
    have N365 := Fr.app N356 Nq365
    refine own_goT st365 ?_
    have le_365 : T356.heap.size ≤ T365.heap.size := Kp365.1
    have K365 : Keep h0 T365.heap [q1] := Keep.trans K356 Kp365 (allS (Or.inr sz231) all0)
    refine own_go (fun _ => XS.iinc X365.here hx rfl (hb hby d2_114) rfl (l' := #[.val (.ref q1), .val (.int z1), .val (.int (4 : Int32)), .val (.int (1 : Int32))]) rfl) ?_
    refine own_go (fun _ => XS.goto X365.here hx rfl (pc0 := 117) (pc' := 105) rfl (hb hby d2_117) (by decide) (by decide)) ?_
    refine own_go (fun _ => XS.iloadN X365.here hx rfl (hb hby d2_105) rfl) ?_
    show ∃ t o, Steps p.tables e below (T365.setTop (mkF m 106 #[.val (.ref q1), .val (.int z1), .val (.int (4 : Int32)), .val (.int (1 : Int32))] [(.int (1 : Int32))])) t ∧ _
    refine own_go (fun _ => XS.ifNo X365.here hx rfl (hb hby d2_106) rfl ((if0 _ _).trans (tlt (by decide : (0 : Int32) < (1 : Int32))).2.2.2)) ?_
    refine own_go (fun _ => XS.aloadN X365.here hx rfl (hb hby d2_109) rfl rfl) ?_
    refine own_go (fun _ => XS.iloadN X365.here hx rfl (hb hby d2_110) rfl) ?_
    show ∃ t o, Steps p.tables e below (T365.setTop (mkF m 111 #[.val (.ref q1), .val (.int z1), .val (.int (4 : Int32)), .val (.int (1 : Int32))] [(.int (1 : Int32)), (.ref q1)])) t ∧ _
    have F366 := (Exa.keep F357 Kp365)
    have F367 := (Fld.keep F358 Kp365 (ninS ne232 nin0))
    have F368 := (Fld.keep F359 Kp365 (ninS ne232 nin0))
    have F369 := (Fld.keep F360 Kp365 (ninS ne232 nin0))
    have F370 := (Arv.keep F361 Kp365 (ninS ne256 nin0))
    have F371 := (Arv.keep F362 Kp365 (ninS ne263 nin0))
    have F372 := (Old.keep F363 Kp365 (allS ge230 all0))
    have zl373 : n0 ≤ T365.heap.size := by omega
    obtain ⟨cq374, q374, q374'⟩ := F366.cell
    obtain ⟨_, _, ⟨T374, L374, k374, n374⟩, -, X374, ⟨Lc374, hQ374, l374, y374, z374⟩, st374⟩ := X365.privateBack hx (y := (⟨"com/example/holdback/holdback/sim/EventQueue", "play", "(I)V"⟩ : MethodName)) hown (mvT hZ w_55) (mvT hZ w_56) (mvT hZ (own_selp (y := (⟨"com/example/holdback/holdback/sim/EventQueue", "play", "(I)V"⟩ : MethodName)) w_75 rfl w_57 w_56 (by decide))) (Cond.privateMethod_at (mvP hZ w_57 (args := #[]))) (mvT hZ w_58) (by decide) (backOf (W := 0) (rmPlay l Z a0 hw [] q1 b165 b169 b173 k165 k169 k173 ([(.double (9218868437227405312 : UInt64)), (.double (9218868437227405312 : UInt64)), (.double (9218868437227405312 : UInt64)), (.double (9218868437227405312 : UInt64))]) ([(.long (9223372036854775807 : Int64)), (.long (9223372036854775807 : Int64)), (.long (9223372036854775807 : Int64)), (.long (9223372036854775807 : Int64))]) wl2_365 (4 : Int32) (8 : Int32) (1 : Int32) T365.heap n0 zl373 F366 F367 F368 F369 F370 F371 G365_0 F372 Gi344 Gi345 H365_0 hN347 (by decide) (by decide) (by omega) (by omega) (by omega) (by omega)) hZ w_58 w_6 (by decide) (by decide)) (g := (mkF m 111 #[.val (.ref q1), .val (.int z1), .val (.int (4 : Int32)), .val (.int (1 : Int32))] [(.int (1 : Int32)), (.ref q1)])) rfl (by rw [hml]; rfl) (Steps.refl _) (a := q1) q374 q374' (argsL := [(.int (1 : Int32))]) (rest := []) (lenOf pd__28I_29V rfl) rfl (by show 2 * 0 + _ ≤ _; exact Nat.le_of_eq rfl) (hb hby d2_111) (fun _ _ => ⟨rfl, rfl, (by decide : 20 + 0 ≤ _), (by decide : 140 + 0 ≤ _)⟩)
    dsimp only [Pt.U, Pt.locs, Pt.cells, Pt.slots] at X374 l374 y374 z374 st374 hQ374
    rw [l374, y374, z374] at X374
    obtain ⟨wl2_374, rfl, Nq374, Kp374, G374_0, H374_0⟩ := hQ374
    have N374 := Fr.app N365 Nq374
    refine own_goT st374 ?_
    have le_374 : T365.heap.size ≤ T374.heap.size := Kp374.1
    have K374 : Keep h0 T374.heap [q1] := Keep.trans K365 Kp374 (allS (Or.inr sz231) all0)
    refine own_go (fun _ => XS.iinc X374.here hx rfl (hb hby d2_114) rfl (l' := #[.val (.ref q1), .val (.int z1), .val (.int (4 : Int32)), .val (.int (0 : Int32))]) rfl) ?_
    refine own_go (fun _ => XS.goto X374.here hx rfl (pc0 := 117) (pc' := 105) rfl (hb hby d2_117) (by decide) (by decide)) ?_
    refine own_go (fun _ => XS.iloadN X374.here hx rfl (hb hby d2_105) rfl) ?_
    show ∃ t o, Steps p.tables e below (T374.setTop (mkF m 106 #[.val (.ref q1), .val (.int z1), .val (.int (4 : Int32)), .val (.int (0 : Int32))] [(.int (0 : Int32))])) t ∧ _
    refine own_go (fun _ => XS.ifYes X374.here hx rfl (pc0 := 106) (pc' := 120) rfl (hb hby d2_106) rfl ((if0 _ _).trans (flt (by decide : ¬ ((0 : Int32) < (0 : Int32)))).2.2.2) (by decide) (by decide)) ?_
    have lt375 : (b161 : Nat) < b179 := by omega
    have lt376 : (b165 : Nat) < b179 := by omega
    have lt377 : (b169 : Nat) < b179 := by omega
    have lt378 : (b173 : Nat) < b179 := by omega
    have lt379 : (ac_183 : Nat) < b276 := by omega
    have lt380 : (ac_183 : Nat) < b311 := by omega
    have F381 := (own_S.keep1 (own_S.keep1 (own_S.keep1 (own_S.wr (own_S.wr (own_S.wr (own_S.wr (own_S.keep1 (own_S.ext (own_S.wr (own_S.wr (own_S.wr (own_S.wr (own_S.keep1 (own_S.ext (own_S.wr (own_S.wr (own_S.wr (own_S.wr (own_S.keep1 (own_S.ext (own_S.wr (own_S.wr (own_S.wr (own_S.wr cs186 W192 (Or.inl lt375)) W204 (Or.inl lt376)) W216 (Or.inl lt377)) W229 (Or.inl lt378)) E235) Kp240 (allS (P := fun y : Nat => y < b179 ∨ ac_183 < y) (Or.inr lt236) all0)) W251 (Or.inl lt375)) W260 (Or.inl lt376)) W267 (Or.inl lt377)) W273 (Or.inl lt378)) E276) Kp281 (allS (P := fun y : Nat => y < b179 ∨ ac_183 < y) (Or.inr lt379) all0)) W289 (Or.inl lt375)) W296 (Or.inl lt376)) W302 (Or.inl lt377)) W308 (Or.inl lt378)) E311) Kp316 (allS (P := fun y : Nat => y < b179 ∨ ac_183 < y) (Or.inr lt380) all0)) W324 (Or.inl lt375)) W331 (Or.inl lt376)) W337 (Or.inl lt377)) W343 (Or.inl lt378)) Kp356 (allS (P := fun y : Nat => y < b179 ∨ ac_183 < y) (Or.inl lt378) all0)) Kp365 (allS (P := fun y : Nat => y < b179 ∨ ac_183 < y) (Or.inl lt378) all0)) Kp374 (allS (P := fun y : Nat => y < b179 ∨ ac_183 < y) (Or.inl lt378) all0))
    have lt382 : (b161 : Nat) < b235 := by omega
    have lt383 : (b165 : Nat) < b235 := by omega
    have lt384 : (b169 : Nat) < b235 := by omega
    have lt385 : (b173 : Nat) < b235 := by omega
    have lt386 : (ac_240 : Nat) < b311 := by omega
    have F387 := (own_S.keep1 (own_S.keep1 (own_S.keep1 (own_S.wr (own_S.wr (own_S.wr (own_S.wr (own_S.keep1 (own_S.ext (own_S.wr (own_S.wr (own_S.wr (own_S.wr (own_S.keep1 (own_S.ext (own_S.wr (own_S.wr (own_S.wr (own_S.wr cs243 W251 (Or.inl lt382)) W260 (Or.inl lt383)) W267 (Or.inl lt384)) W273 (Or.inl lt385)) E276) Kp281 (allS (P := fun y : Nat => y < b235 ∨ ac_240 < y) (Or.inr lt277) all0)) W289 (Or.inl lt382)) W296 (Or.inl lt383)) W302 (Or.inl lt384)) W308 (Or.inl lt385)) E311) Kp316 (allS (P := fun y : Nat => y < b235 ∨ ac_240 < y) (Or.inr lt386) all0)) W324 (Or.inl lt382)) W331 (Or.inl lt383)) W337 (Or.inl lt384)) W343 (Or.inl lt385)) Kp356 (allS (P := fun y : Nat => y < b235 ∨ ac_240 < y) (Or.inl lt385) all0)) Kp365 (allS (P := fun y : Nat => y < b235 ∨ ac_240 < y) (Or.inl lt385) all0)) Kp374 (allS (P := fun y : Nat => y < b235 ∨ ac_240 < y) (Or.inl lt385) all0))
    have lt388 : (b161 : Nat) < b276 := by omega
    have lt389 : (b165 : Nat) < b276 := by omega
    have lt390 : (b169 : Nat) < b276 := by omega
    have lt391 : (b173 : Nat) < b276 := by omega
    have F392 := (own_S.keep1 (own_S.keep1 (own_S.keep1 (own_S.wr (own_S.wr (own_S.wr (own_S.wr (own_S.keep1 (own_S.ext (own_S.wr (own_S.wr (own_S.wr (own_S.wr cs284 W289 (Or.inl lt388)) W296 (Or.inl lt389)) W302 (Or.inl lt390)) W308 (Or.inl lt391)) E311) Kp316 (allS (P := fun y : Nat => y < b276 ∨ ac_281 < y) (Or.inr lt312) all0)) W324 (Or.inl lt388)) W331 (Or.inl lt389)) W337 (Or.inl lt390)) W343 (Or.inl lt391)) Kp356 (allS (P := fun y : Nat => y < b276 ∨ ac_281 < y) (Or.inl lt391) all0)) Kp365 (allS (P := fun y : Nat => y < b276 ∨ ac_281 < y) (Or.inl lt391) all0)) Kp374 (allS (P := fun y : Nat => y < b276 ∨ ac_281 < y) (Or.inl lt391) all0))
    have lt393 : (b161 : Nat) < b311 := by omega
    have lt394 : (b165 : Nat) < b311 := by omega
    have lt395 : (b169 : Nat) < b311 := by omega
    have lt396 : (b173 : Nat) < b311 := by omega
    have F397 := (own_S.keep1 (own_S.keep1 (own_S.keep1 (own_S.wr (own_S.wr (own_S.wr (own_S.wr cs319 W324 (Or.inl lt393)) W331 (Or.inl lt394)) W337 (Or.inl lt395)) W343 (Or.inl lt396)) Kp356 (allS (P := fun y : Nat => y < b311 ∨ ac_316 < y) (Or.inl lt396) all0)) Kp365 (allS (P := fun y : Nat => y < b311 ∨ ac_316 < y) (Or.inl lt396) all0)) Kp374 (allS (P := fun y : Nat => y < b311 ∨ ac_316 < y) (Or.inl lt396) all0))
    have lt398 : (ac_316 : Nat) < T374.heap.size := by omega
    have nS399 : own_SS Z T374.heap (4 : Int32).toNatClampNeg (own_ff ([b179, b235, b276, b311] ++ [T374.heap.size])) (0 : Int) (0 : Int) := fun j hj => own_chain.at [b179, b235, b276, b311, T374.heap.size] ⟨own_S.up2 F381 lt236, own_S.up2 F387 lt277, own_S.up2 F392 lt312, own_S.up2 F397 lt398, trivial⟩ j (Nat.succ_lt_succ hj)
    have nR400 : own_R (4 : Int32) (own_ff ([b179, b235, b276, b311] ++ [T374.heap.size])) [(.ref b179), (.ref b235), (.ref b276), (.ref b311)] := own_R_of [b179, b235, b276, b311] T374.heap.size rfl
    show ∃ t o, Steps p.tables e below (T374.setTop (mkF m 120 #[.val (.ref q1), .val (.int z1), .val (.int (4 : Int32)), .val (.int (0 : Int32))] [])) t ∧ _
    have F401 := (Exa.keep F366 Kp374)
    have F402 := (Fld.keep F367 Kp374 (ninS ne232 nin0))
    have F403 := (Fld.keep F368 Kp374 (ninS ne232 nin0))
    have F404 := (Fld.keep F369 Kp374 (ninS ne232 nin0))
    have F405 := (Arv.keep F370 Kp374 (ninS ne256 nin0))
    have F406 := (Arv.keep F371 Kp374 (ninS ne263 nin0))
    have F407 := (Fld.keep (Fld.keep (Fld.keep (Fld.other W343 (Fld.other W337 (Fld.other W331 (Fld.other W324 (Fld.keep (Fld.ext E311 F309) Kp316 (ninS ne325 nin0)) (Or.inl ne196)) (Or.inl ne207)) (Or.inl ne219)) (Or.inl ne232)) Kp356 (ninS ne232 nin0)) Kp365 (ninS ne232 nin0)) Kp374 (ninS ne232 nin0))
    have F408 := (Arv.keep (Arv.keep (Arv.keep (Arv.other (Arv.other (Arv.other V324 W331 ne245) W337 ne246) W343 ne247) Kp356 (ninS ne247 nin0)) Kp365 (ninS ne247 nin0)) Kp374 (ninS ne247 nin0))
    have F409 := (Fld.keep (Fld.keep (Fld.keep (Fld.other W343 (Fld.other W337 (Fld.other W331 (Fld.other W324 (Fld.keep (Fld.ext E311 (Fld.other W308 (Fld.other W302 (Fld.other W296 (Fld.other W289 (Fld.keep (Fld.ext E276 (Fld.other W273 (Fld.other W267 (Fld.other W260 (Fld.other W251 (Fld.keep (Fld.ext E235 (Fld.other W229 (Fld.other W216 (Fld.other W204 (Fld.other W192 (Fld.keep (Fld.ext E179 (Fld.other W176 (Fld.ext E173 (Fld.other W172 (Fld.ext E169 (Fld.other W168 (Fld.ext E165 (Fld.other W164 (Fld.ext E161 P6) (Or.inr (slot_ne (a0 := a0) (Or.inl w_78) (Or.inr w_28) (by decide) (t := .int) (t' := (.array (.object "com/example/holdback/holdback/sim/EventQueue$Stream"))) (by decide) (by decide))))) (Or.inr (slot_ne (a0 := a0) (Or.inl w_78) (Or.inr w_31) (by decide) (t := .int) (t' := (.array .double)) (by decide) (by decide))))) (Or.inr (slot_ne (a0 := a0) (Or.inl w_78) (Or.inr w_34) (by decide) (t := .int) (t' := (.array .long)) (by decide) (by decide))))) (Or.inr (slot_ne (a0 := a0) (Or.inl w_78) (Or.inr w_37) (by decide) (t := .int) (t' := (.array .int)) (by decide) (by decide))))) Kp183 (ninS ne195 nin0)) (Or.inl ne196)) (Or.inl ne207)) (Or.inl ne219)) (Or.inl ne232))) Kp240 (ninS ne252 nin0)) (Or.inl ne196)) (Or.inl ne207)) (Or.inl ne219)) (Or.inl ne232))) Kp281 (ninS ne290 nin0)) (Or.inl ne196)) (Or.inl ne207)) (Or.inl ne219)) (Or.inl ne232))) Kp316 (ninS ne325 nin0)) (Or.inl ne196)) (Or.inl ne207)) (Or.inl ne219)) (Or.inl ne232)) Kp356 (ninS ne232 nin0)) Kp365 (ninS ne232 nin0)) Kp374 (ninS ne232 nin0))
    have F410 := (Fld.keep (Fld.keep (Fld.keep (Fld.other W343 (Fld.other W337 (Fld.other W331 (Fld.other W324 (Fld.keep (Fld.ext E311 (Fld.other W308 (Fld.other W302 (Fld.other W296 (Fld.other W289 (Fld.keep (Fld.ext E276 (Fld.other W273 (Fld.other W267 (Fld.other W260 (Fld.other W251 (Fld.keep (Fld.ext E235 (Fld.other W229 (Fld.other W216 (Fld.other W204 (Fld.other W192 (Fld.keep (Fld.ext E179 (Fld.other W176 (Fld.ext E173 (Fld.other W172 (Fld.ext E169 (Fld.other W168 (Fld.ext E165 (Fld.other W164 (Fld.ext E161 P7) (Or.inr (slot_ne (a0 := a0) (Or.inl w_87) (Or.inr w_28) (by decide) (t := .long) (t' := (.array (.object "com/example/holdback/holdback/sim/EventQueue$Stream"))) (by decide) (by decide))))) (Or.inr (slot_ne (a0 := a0) (Or.inl w_87) (Or.inr w_31) (by decide) (t := .long) (t' := (.array .double)) (by decide) (by decide))))) (Or.inr (slot_ne (a0 := a0) (Or.inl w_87) (Or.inr w_34) (by decide) (t := .long) (t' := (.array .long)) (by decide) (by decide))))) (Or.inr (slot_ne (a0 := a0) (Or.inl w_87) (Or.inr w_37) (by decide) (t := .long) (t' := (.array .int)) (by decide) (by decide))))) Kp183 (ninS ne195 nin0)) (Or.inl ne196)) (Or.inl ne207)) (Or.inl ne219)) (Or.inl ne232))) Kp240 (ninS ne252 nin0)) (Or.inl ne196)) (Or.inl ne207)) (Or.inl ne219)) (Or.inl ne232))) Kp281 (ninS ne290 nin0)) (Or.inl ne196)) (Or.inl ne207)) (Or.inl ne219)) (Or.inl ne232))) Kp316 (ninS ne325 nin0)) (Or.inl ne196)) (Or.inl ne207)) (Or.inl ne219)) (Or.inl ne232)) Kp356 (ninS ne232 nin0)) Kp365 (ninS ne232 nin0)) Kp374 (ninS ne232 nin0))
    obtain ⟨fs, hr, hrun, hended, hW, hsame⟩ := X374.leave (v := none) (fun _ => rfl)
    refine ⟨_, _, ?_, hrun, hended, _, _, rfl, ?_, ⟨_, rfl⟩, hW, hsame.mono (by decide) (by decide)⟩
    · exact X374.returnOut hx Bd.returns (hb hby d2_120) hr
    · show Q_rmQI Z _ _ h0 n0 _ T374.heap _
      exact ⟨b161, b165, b169, b173, k161, k165, k169, k173, [(.ref b179), (.ref b235), (.ref b276), (.ref b311)], [(.double (9218868437227405312 : UInt64)), (.double (9218868437227405312 : UInt64)), (.double (9218868437227405312 : UInt64)), (.double (9218868437227405312 : UInt64))], [(.long (9223372036854775807 : Int64)), (.long (9223372036854775807 : Int64)), (.long (9223372036854775807 : Int64)), (.long (9223372036854775807 : Int64))], wl2_374, (own_ff ([b179, b235, b276, b311] ++ [T374.heap.size])), (4 : Int32), (8 : Int32), rfl, N374, K374, F401, F402, F403, F404, F405, F406, G374_0, F407, F408, nS399, F409, F410, Gi344, Gi345, H374_0, hN347, nR400, (by omega), (by omega), (by omega), (by omega), (show (b173 : Nat) < b179 by omega), hk.2⟩
  · rw [hk.1]
    refine own_go (fun _ => XS.istoreN X10.here hx rfl (hb hby d2_16) rfl (l' := #[.val (.ref q1), .val (.int z1), .val (.int (8 : Int32)), .unset]) rfl) ?_
    refine own_go (fun _ => XS.aloadN X10.here hx rfl (hb hby d2_17) rfl rfl) ?_
    refine own_go (fun _ => XS.iloadN X10.here hx rfl (hb hby d2_18) rfl) ?_
    show ∃ t o, Steps p.tables e below (T10.setTop (mkF m 19 #[.val (.ref q1), .val (.int z1), .val (.int (8 : Int32)), .unset] [(.int (8 : Int32)), (.ref q1)])) t ∧ _
    obtain ⟨T411, h411, k411, X411, e411, E411, A411, Q411, O411, st411⟩ := newRE X10 hx hZ hown w_25 w_26 e10 (g := (mkF m 19 #[.val (.ref q1), .val (.int z1), .val (.int (8 : Int32)), .unset] [(.int (8 : Int32)), (.ref q1)])) rfl (hb hby d2_19) rfl (by decide) (cap := 8) (by decide) (by decide) (by decide) (by decide) (ad := "[Lcom/example/holdback/holdback/sim/EventQueue$Stream;") rfl
    obtain ⟨b411, g411⟩ : ∃ z, z = h0.size := ⟨_, rfl⟩
    rw [← g411] at A411 Q411 st411
    refine own_go st411 ?_
    have le_411 : h0.size ≤ h411.size := E411.1
    have lt_b411 : b411 < h411.size := A411.lt
    have V_b411 : Arv Z h411 b411 k411 (.object "com/example/holdback/holdback/sim/EventQueue$Stream") (8 : Int32) [.null, .null, .null, .null, .null, .null, .null, .null] .null := (Arv.new A411 (by decide)).pad (pad_rep [] .null 8)
    have K411 : Keep h0 h411 [q1] := Keep.ext (Keep.refl h0 [q1]) E411
    have F412 := (Exa.ext E411 P1)
    have F413 := (Fld.ext E411 P2)
    obtain ⟨T414, h414, X414, e414, W414, st414⟩ := putF X411 hx hZ hown (host := "") (Or.inl w_27) Via.refl e411 F413 F412 (Or.inr ⟨w_28, rfl, hnm⟩) w_5 (ty := (.array (.object "com/example/holdback/holdback/sim/EventQueue$Stream"))) (by decide) rfl rfl (g := (mkF m 22 #[.val (.ref q1), .val (.int z1), .val (.int (8 : Int32)), .unset] [(.ref b411), (.ref q1)])) rfl rfl (hb hby d2_22)
    refine own_go st414 ?_
    have le_414 : h411.size ≤ h414.size := Nat.le_of_eq W414.size.symm
    have K414 : Keep h0 h414 [q1] := Keep.wr K411 W414 (Or.inl (List.mem_of_getElem? (i := 0) rfl))
    have N414 := Fr.snoc X414 N10 gq
    have Fw414 := Fld.same W414 F413
    refine own_go (fun _ => XS.aloadN X414.here hx rfl (hb hby d2_25) rfl rfl) ?_
    refine own_go (fun _ => XS.iloadN X414.here hx rfl (hb hby d2_26) rfl) ?_
    show ∃ t o, Steps p.tables e below (T414.setTop (mkF m 27 #[.val (.ref q1), .val (.int z1), .val (.int (8 : Int32)), .unset] [(.int (8 : Int32)), (.ref q1)])) t ∧ _
    obtain ⟨T415, h415, k415, X415, e415, E415, A415, st415⟩ := newP (aty := .double) X414 hx hZ w_29 e414 (g := (mkF m 27 #[.val (.ref q1), .val (.int z1), .val (.int (8 : Int32)), .unset] [(.int (8 : Int32)), (.ref q1)])) rfl (hb hby d2_27) rfl (by decide) (cap := 8) (by decide) (by decide) (by decide) (by decide)
    obtain ⟨b415, g415⟩ : ∃ z, z = h414.size := ⟨_, rfl⟩
    rw [← g415] at A415 st415
    refine own_go st415 ?_
    have le_415 : h414.size ≤ h415.size := E415.1
    have lt_b415 : b415 < h415.size := A415.lt
    have V_b415 : Arv Z h415 b415 k415 .double (8 : Int32) [(.double (0 : UInt64)), (.double (0 : UInt64)), (.double (0 : UInt64)), (.double (0 : UInt64)), (.double (0 : UInt64)), (.double (0 : UInt64)), (.double (0 : UInt64)), (.double (0 : UInt64))] (.double (0 : UInt64)) := (Arv.new A415 (by decide)).pad (pad_rep [] (.double (0 : UInt64)) 8)
    have K415 : Keep h0 h415 [q1] := Keep.ext K414 E415
    have F416 := (Exa.ext E415 (Exa.wr W414 F412))
    have F417 := (Fld.ext E415 (Fld.other W414 (Fld.ext E411 P3) (Or.inr (slot_ne (a0 := a0) (Or.inr w_31) (Or.inr w_28) (by decide) (t := (.array .double)) (t' := (.array (.object "com/example/holdback/holdback/sim/EventQueue$Stream"))) (by decide) (by decide)))))
    obtain ⟨T418, h418, X418, e418, W418, st418⟩ := putF X415 hx hZ hown (host := "") (Or.inl w_30) Via.refl e415 F417 F416 (Or.inr ⟨w_31, rfl, hnm⟩) w_5 (ty := (.array .double)) (by decide) rfl rfl (g := (mkF m 29 #[.val (.ref q1), .val (.int z1), .val (.int (8 : Int32)), .unset] [(.ref b415), (.ref q1)])) rfl rfl (hb hby d2_29)
    refine own_go st418 ?_
    have le_418 : h415.size ≤ h418.size := Nat.le_of_eq W418.size.symm
    have K418 : Keep h0 h418 [q1] := Keep.wr K415 W418 (Or.inl (List.mem_of_getElem? (i := 0) rfl))
    have N418 := Fr.snoc X418 N414 gq
    have Fw418 := Fld.same W418 F417
    refine own_go (fun _ => XS.aloadN X418.here hx rfl (hb hby d2_32) rfl rfl) ?_
    refine own_go (fun _ => XS.iloadN X418.here hx rfl (hb hby d2_33) rfl) ?_
    show ∃ t o, Steps p.tables e below (T418.setTop (mkF m 34 #[.val (.ref q1), .val (.int z1), .val (.int (8 : Int32)), .unset] [(.int (8 : Int32)), (.ref q1)])) t ∧ _
    obtain ⟨T419, h419, k419, X419, e419, E419, A419, st419⟩ := newP (aty := .long) X418 hx hZ w_32 e418 (g := (mkF m 34 #[.val (.ref q1), .val (.int z1), .val (.int (8 : Int32)), .unset] [(.int (8 : Int32)), (.ref q1)])) rfl (hb hby d2_34) rfl (by decide) (cap := 8) (by decide) (by decide) (by decide) (by decide)
    obtain ⟨b419, g419⟩ : ∃ z, z = h418.size := ⟨_, rfl⟩
    rw [← g419] at A419 st419
    refine own_go st419 ?_
    have le_419 : h418.size ≤ h419.size := E419.1
    have lt_b419 : b419 < h419.size := A419.lt
    have V_b419 : Arv Z h419 b419 k419 .long (8 : Int32) [(.long (0 : Int64)), (.long (0 : Int64)), (.long (0 : Int64)), (.long (0 : Int64)), (.long (0 : Int64)), (.long (0 : Int64)), (.long (0 : Int64)), (.long (0 : Int64))] (.long (0 : Int64)) := (Arv.new A419 (by decide)).pad (pad_rep [] (.long (0 : Int64)) 8)
    have K419 : Keep h0 h419 [q1] := Keep.ext K418 E419
    have F420 := (Exa.ext E419 (Exa.wr W418 F416))
    have F421 := (Fld.ext E419 (Fld.other W418 (Fld.ext E415 (Fld.other W414 (Fld.ext E411 P4) (Or.inr (slot_ne (a0 := a0) (Or.inr w_34) (Or.inr w_28) (by decide) (t := (.array .long)) (t' := (.array (.object "com/example/holdback/holdback/sim/EventQueue$Stream"))) (by decide) (by decide))))) (Or.inr (slot_ne (a0 := a0) (Or.inr w_34) (Or.inr w_31) (by decide) (t := (.array .long)) (t' := (.array .double)) (by decide) (by decide)))))
    obtain ⟨T422, h422, X422, e422, W422, st422⟩ := putF X419 hx hZ hown (host := "") (Or.inl w_33) Via.refl e419 F421 F420 (Or.inr ⟨w_34, rfl, hnm⟩) w_5 (ty := (.array .long)) (by decide) rfl rfl (g := (mkF m 36 #[.val (.ref q1), .val (.int z1), .val (.int (8 : Int32)), .unset] [(.ref b419), (.ref q1)])) rfl rfl (hb hby d2_36)
    refine own_go st422 ?_
    have le_422 : h419.size ≤ h422.size := Nat.le_of_eq W422.size.symm
    have K422 : Keep h0 h422 [q1] := Keep.wr K419 W422 (Or.inl (List.mem_of_getElem? (i := 0) rfl))
    have N422 := Fr.snoc X422 N418 gq
    have Fw422 := Fld.same W422 F421
    refine own_go (fun _ => XS.aloadN X422.here hx rfl (hb hby d2_39) rfl rfl) ?_
    refine own_go (fun _ => XS.iconst X422.here hx rfl (hb hby d2_40)) ?_
    refine own_go (fun _ => XS.iloadN X422.here hx rfl (hb hby d2_41) rfl) ?_
    refine own_go (fun _ => XS.imul X422.here hx rfl (hb hby d2_42) rfl) ?_
    show ∃ t o, Steps p.tables e below (T422.setTop (mkF m 43 #[.val (.ref q1), .val (.int z1), .val (.int (8 : Int32)), .unset] [(.int (16 : Int32)), (.ref q1)])) t ∧ _
    obtain ⟨T423, h423, k423, X423, e423, E423, A423, st423⟩ := newP (aty := .int) X422 hx hZ w_35 e422 (g := (mkF m 43 #[.val (.ref q1), .val (.int z1), .val (.int (8 : Int32)), .unset] [(.int (16 : Int32)), (.ref q1)])) rfl (hb hby d2_43) rfl (by decide) (cap := 16) (by decide) (by decide) (by decide) (by decide)
    obtain ⟨b423, g423⟩ : ∃ z, z = h422.size := ⟨_, rfl⟩
    rw [← g423] at A423 st423
    refine own_go st423 ?_
    have le_423 : h422.size ≤ h423.size := E423.1
    have lt_b423 : b423 < h423.size := A423.lt
    have V_b423 : Arv Z h423 b423 k423 .int (16 : Int32) [(.int (0 : Int32)), (.int (0 : Int32)), (.int (0 : Int32)), (.int (0 : Int32)), (.int (0 : Int32)), (.int (0 : Int32)), (.int (0 : Int32)), (.int (0 : Int32)), (.int (0 : Int32)), (.int (0 : Int32)), (.int (0 : Int32)), (.int (0 : Int32)), (.int (0 : Int32)), (.int (0 : Int32)), (.int (0 : Int32)), (.int (0 : Int32))] (.int (0 : Int32)) := (Arv.new A423 (by decide)).pad (pad_rep [] (.int (0 : Int32)) 16)
    have K423 : Keep h0 h423 [q1] := Keep.ext K422 E423
    have F424 := (Exa.ext E423 (Exa.wr W422 F420))
    have F425 := (Fld.ext E423 (Fld.other W422 (Fld.ext E419 (Fld.other W418 (Fld.ext E415 (Fld.other W414 (Fld.ext E411 P5) (Or.inr (slot_ne (a0 := a0) (Or.inr w_37) (Or.inr w_28) (by decide) (t := (.array .int)) (t' := (.array (.object "com/example/holdback/holdback/sim/EventQueue$Stream"))) (by decide) (by decide))))) (Or.inr (slot_ne (a0 := a0) (Or.inr w_37) (Or.inr w_31) (by decide) (t := (.array .int)) (t' := (.array .double)) (by decide) (by decide))))) (Or.inr (slot_ne (a0 := a0) (Or.inr w_37) (Or.inr w_34) (by decide) (t := (.array .int)) (t' := (.array .long)) (by decide) (by decide)))))
    obtain ⟨T426, h426, X426, e426, W426, st426⟩ := putF X423 hx hZ hown (host := "") (Or.inl w_36) Via.refl e423 F425 F424 (Or.inr ⟨w_37, rfl, hnm⟩) w_5 (ty := (.array .int)) (by decide) rfl rfl (g := (mkF m 45 #[.val (.ref q1), .val (.int z1), .val (.int (8 : Int32)), .unset] [(.ref b423), (.ref q1)])) rfl rfl (hb hby d2_45)
    refine own_go st426 ?_
    have le_426 : h423.size ≤ h426.size := Nat.le_of_eq W426.size.symm
    have K426 : Keep h0 h426 [q1] := Keep.wr K423 W426 (Or.inl (List.mem_of_getElem? (i := 0) rfl))
    have N426 := Fr.snoc X426 N422 gq
    have Fw426 := Fld.same W426 F425
    refine own_go (fun _ => XS.iconst X426.here hx rfl (hb hby d2_48)) ?_
    refine own_go (fun _ => XS.istoreN X426.here hx rfl (hb hby d2_49) rfl (l' := #[.val (.ref q1), .val (.int z1), .val (.int (8 : Int32)), .val (.int (0 : Int32))]) rfl) ?_
    refine own_go (fun _ => XS.iloadN X426.here hx rfl (hb hby d2_50) rfl) ?_
    refine own_go (fun _ => XS.iloadN X426.here hx rfl (hb hby d2_51) rfl) ?_
    show ∃ t o, Steps p.tables e below (T426.setTop (mkF m 52 #[.val (.ref q1), .val (.int z1), .val (.int (8 : Int32)), .val (.int (0 : Int32))] [(.int (8 : Int32)), (.int (0 : Int32))])) t ∧ _
    refine own_go (fun _ => XS.icmpNo X426.here hx rfl (hb hby d2_52) rfl (tlt (by decide : (0 : Int32) < (8 : Int32))).2.1) ?_
    refine own_go (fun _ => XS.aloadN X426.here hx rfl (hb hby d2_55) rfl rfl) ?_
    have F427 := (Fld.other W426 (Fld.ext E423 (Fld.other W422 (Fld.ext E419 (Fld.other W418 (Fld.ext E415 Fw414) (Or.inr (slot_ne (a0 := a0) (Or.inr w_28) (Or.inr w_31) (by decide) (t := (.array (.object "com/example/holdback/holdback/sim/EventQueue$Stream"))) (t' := (.array .double)) (by decide) (by decide))))) (Or.inr (slot_ne (a0 := a0) (Or.inr w_28) (Or.inr w_34) (by decide) (t := (.array (.object "com/example/holdback/holdback/sim/EventQueue$Stream"))) (t' := (.array .long)) (by decide) (by decide))))) (Or.inr (slot_ne (a0 := a0) (Or.inr w_28) (Or.inr w_37) (by decide) (t := (.array (.object "com/example/holdback/holdback/sim/EventQueue$Stream"))) (t' := (.array .int)) (by decide) (by decide))))
    obtain ⟨T428, X428, e428, st428⟩ := getF X426 hx hZ hown (host := "") (Or.inl w_27) Via.refl e426 F427 (g := (mkF m 56 #[.val (.ref q1), .val (.int z1), .val (.int (8 : Int32)), .val (.int (0 : Int32))] [(.ref q1)])) rfl rfl (hb hby d2_56)
    refine own_go st428 ?_
    refine own_go (fun _ => XS.iloadN X428.here hx rfl (hb hby d2_59) rfl) ?_
    show ∃ t o, Steps p.tables e below (T428.setTop (mkF m 60 #[.val (.ref q1), .val (.int z1), .val (.int (8 : Int32)), .val (.int (0 : Int32))] [(.int (0 : Int32)), (.ref b411)])) t ∧ _
    obtain ⟨T429, h429, X429, e429, E429, A429, D429, -, st429⟩ := newO X428 hx hZ hown w_25 w_38 w_39 e428 (g := (mkF m 60 #[.val (.ref q1), .val (.int z1), .val (.int (8 : Int32)), .val (.int (0 : Int32))] [(.int (0 : Int32)), (.ref b411)])) rfl (hb hby d2_60) (by decide) (by decide)
    obtain ⟨b429, g429⟩ : ∃ z, z = h426.size := ⟨_, rfl⟩
    rw [← g429] at A429 D429 st429
    refine own_go st429 ?_
    have le_429 : h426.size ≤ h429.size := E429.1
    have lt_b429 : b429 < h429.size := A429.lt
    have F_moments_b429 : Fld Z h429 b429 "com/example/holdback/holdback/sim/EventQueue$Stream" "moments" "[D" .null := D429 (Or.inl w_45) (ty := (.array .double)) (by decide)
    have F_places_b429 : Fld Z h429 b429 "com/example/holdback/holdback/sim/EventQueue$Stream" "places" "[J" .null := D429 (Or.inl w_47) (ty := (.array .long)) (by decide)
    have F_actions_b429 : Fld Z h429 b429 "com/example/holdback/holdback/sim/EventQueue$Stream" "actions" "[Ljava/lang/Runnable;" .null := D429 (Or.inl w_51) (ty := (.array (.object "java/lang/Runnable"))) (by decide)
    have F_lastAt_b429 : Fld Z h429 b429 "com/example/holdback/holdback/sim/EventQueue$Stream" "lastAt" "D" (defaultValue .double) := D429 (Or.inl w_85) (ty := .double) (by decide)
    have F_size_b429 : Fld Z h429 b429 "com/example/holdback/holdback/sim/EventQueue$Stream" "size" "I" (.int (0 : Int32)) := D429 (Or.inl w_94) (ty := .int) (by decide)
    have F_first_b429 : Fld Z h429 b429 "com/example/holdback/holdback/sim/EventQueue$Stream" "first" "I" (.int (0 : Int32)) := D429 (Or.inl w_96) (ty := .int) (by decide)
    have K429 : Keep h0 h429 [q1] := Keep.ext K426 E429
    refine own_go (fun _ => XS.dup X429.here hx rfl (hb hby d2_63) rfl rfl) ?_
    show ∃ t o, Steps p.tables e below (T429.setTop (mkF m 64 #[.val (.ref q1), .val (.int z1), .val (.int (8 : Int32)), .val (.int (0 : Int32))] [(.ref b429), (.ref b429), (.int (0 : Int32)), (.ref b411)])) t ∧ _
    have F430 := ((Old.wr ((Old.wr ((Old.wr ((Old.wr (OLD.ext E411) W414 gq).ext E415) W418 gq).ext E419) W422 gq).ext E423) W426 gq).ext E429)
    have ge431 : n0 ≤ b429 := by omega
    have zl432 : n0 ≤ h429.size := by omega
    obtain ⟨_, _, ⟨T433, L433, k433, n433⟩, -, X433, ⟨Lc433, hQ433, l433, y433, z433⟩, st433⟩ := own_specR X429 hx hZ (y := (⟨"com/example/holdback/holdback/sim/EventQueue$Stream", "<init>", "()V"⟩ : MethodName)) rfl hown w_40 w_41 w_42 (by decide) (backOf (W := 3) (rmSI l Z a0 hw [] b429 h429 n0 zl432 A429 F_moments_b429 F_places_b429 F_actions_b429 F_first_b429 F_size_b429 F_lastAt_b429 F430 ge431) hZ w_42 w_39 (by decide) (by decide)) (g := (mkF m 64 #[.val (.ref q1), .val (.int z1), .val (.int (8 : Int32)), .val (.int (0 : Int32))] [(.ref b429), (.ref b429), (.int (0 : Int32)), (.ref b411)])) rfl (by rw [hml]; rfl) (Steps.refl _) (a := b429) (argsL := []) (rest := [(.ref b429), (.int (0 : Int32)), (.ref b411)]) (lenOf pd__28_29V rfl) rfl (by show 2 * 0 + _ ≤ _; exact Nat.le_of_eq rfl) (hb hby d2_64) (fun _ _ => ⟨rfl, e429, (by decide : 5 + 3 ≤ _), (by decide : 46 + 24 ≤ _)⟩)
    dsimp only [Pt.U, Pt.locs, Pt.cells, Pt.slots] at X433 l433 y433 z433 st433 hQ433
    rw [l433, y433, z433] at X433
    obtain ⟨am_433, ap_433, ac_433, km_433, kp_433, kc_433, rfl, Nq433, Kp433, G433_0, G433_1, G433_2, G433_3, G433_4, G433_5, G433_6, G433_7, G433_8, H433_0, H433_1, H433_2⟩ := hQ433
    have N433 := Fr.app N426 Nq433
    refine own_goT st433 ?_
    have le_433 : h429.size ≤ T433.heap.size := Kp433.1
    have sz434 : h0.size ≤ b429 := by omega
    have K433 : Keep h0 T433.heap [q1] := Keep.trans K429 Kp433 (allS (Or.inr sz434) all0)
    have lt_am_433 : am_433 < T433.heap.size := (G433_6).lt
    have lt_ap_433 : ap_433 < T433.heap.size := (G433_7).lt
    have lt_ac_433 : ac_433 < T433.heap.size := (G433_8).lt
    have lt435 : (b429 : Nat) < am_433 := by omega
    have F437 := (Exa.keep A429 Kp433)
    have cs436 : own_S Z T433.heap b429 (ac_433 + 1) 0 0 := ⟨am_433, ap_433, ac_433, _, _, _, _, _, _, (0 : Int32), (0 : Int32), (0 : Int32), lt435, H433_1, H433_2, Nat.lt_succ_self _, F437, G433_0, G433_1, G433_2, G433_3, G433_4, own_la G433_5, G433_6, G433_7, G433_8, own_gm, own_gp, own_gc, ⟨by decide, by decide⟩, ⟨by decide, by decide⟩, by decide⟩
    have ne438 : b411 ≠ q1 := own_ne (by omega)
    have ne439 : b411 ≠ b429 := own_ne (by omega)
    have F440 := (Arv.keep ((Arv.other ((Arv.other ((Arv.other ((Arv.other V_b411 W414 ne438).ext E415) W418 ne438).ext E419) W422 ne438).ext E423) W426 ne438).ext E429) Kp433 (ninS ne439 nin0))
    obtain ⟨cl441, Ar441, q441, S441, N441, H441, G441⟩ := id F440
    have hin441 : ¬ ((0 : Int32) < 0 ∨ cl441.slots.size ≤ ((0 : Int32)).toNatClampNeg) := inb_of S441 ⟨by decide, by decide⟩
    obtain ⟨T442, h442, X442, e442, W442, st442⟩ := stR X433 hx hZ rfl Ar441 (j := (0 : Int32)) hin441 rfl (Sto.ofV Ar441 q441 O411 (Ins.self F437)) (g := (mkF m 67 #[.val (.ref q1), .val (.int z1), .val (.int (8 : Int32)), .val (.int (0 : Int32))] [(.ref b429), (.int (0 : Int32)), (.ref b411)])) rfl rfl (hb hby d2_67)
    refine own_go st442 ?_
    have ge443 : n0 ≤ b411 := by omega
    have le_442 : T433.heap.size ≤ h442.size := Nat.le_of_eq W442.size.symm
    have sz444 : h0.size ≤ b411 := by omega
    have K442 : Keep h0 h442 [q1] := Keep.wr K433 W442 (Or.inr sz444)
    have N442 := Fr.snoc X442 N433 ge443
    have V442 : Arv Z h442 b411 k411 (.object "com/example/holdback/holdback/sim/EventQueue$Stream") (8 : Int32) [(.ref b429), .null, .null, .null, .null, .null, .null, .null] .null := Arv.set Ar441 q441 S441 N441 H441 G441 rfl W442 0 rfl (Nat.le_of_ble_eq_true rfl)
    refine own_go (fun _ => XS.aloadN X442.here hx rfl (hb hby d2_68) rfl rfl) ?_
    have ne445 : q1 ≠ b429 := own_ne (by omega)
    have ne446 : q1 ≠ b411 := own_ne (by omega)
    have F447 := (Fld.other W442 (Fld.keep (Fld.ext E429 (Fld.other W426 (Fld.ext E423 (Fld.other W422 (Fld.ext E419 Fw418) (Or.inr (slot_ne (a0 := a0) (Or.inr w_31) (Or.inr w_34) (by decide) (t := (.array .double)) (t' := (.array .long)) (by decide) (by decide))))) (Or.inr (slot_ne (a0 := a0) (Or.inr w_31) (Or.inr w_37) (by decide) (t := (.array .double)) (t' := (.array .int)) (by decide) (by decide))))) Kp433 (ninS ne445 nin0)) (Or.inl ne446))
    obtain ⟨T448, X448, e448, st448⟩ := getF X442 hx hZ hown (host := "") (Or.inl w_30) Via.refl e442 F447 (g := (mkF m 69 #[.val (.ref q1), .val (.int z1), .val (.int (8 : Int32)), .val (.int (0 : Int32))] [(.ref q1)])) rfl rfl (hb hby d2_69)
    refine own_go st448 ?_
    refine own_go (fun _ => XS.iloadN X448.here hx rfl (hb hby d2_72) rfl) ?_
    refine own_go (fun _ => X448.ldc2DoubleC hx hown (mvT hZ w_53) (g := (mkF m 73 #[.val (.ref q1), .val (.int z1), .val (.int (8 : Int32)), .val (.int (0 : Int32))] [(.int (0 : Int32)), (.ref b415)])) rfl (hb hby d2_73) _) ?_
    have ne449 : b415 ≠ q1 := own_ne (by omega)
    have ne450 : b415 ≠ b429 := own_ne (by omega)
    have ne451 : b415 ≠ b411 := own_ne (by omega)
    have F452 := (Arv.other (Arv.keep ((Arv.other ((Arv.other ((Arv.other V_b415 W418 ne449).ext E419) W422 ne449).ext E423) W426 ne449).ext E429) Kp433 (ninS ne450 nin0)) W442 ne451)
    obtain ⟨cl453, Ar453, q453, S453, N453, H453, G453⟩ := id F452
    have hin453 : ¬ ((0 : Int32) < 0 ∨ cl453.slots.size ≤ ((0 : Int32)).toNatClampNeg) := inb_of S453 ⟨by decide, by decide⟩
    obtain ⟨T454, h454, X454, e454, W454, st454⟩ := stD X448 hx hZ e448 Ar453 (j := (0 : Int32)) hin453 (g := (mkF m 76 #[.val (.ref q1), .val (.int z1), .val (.int (8 : Int32)), .val (.int (0 : Int32))] [(.double (9218868437227405312 : UInt64)), (.int (0 : Int32)), (.ref b415)])) rfl rfl (hb hby d2_76)
    refine own_go st454 ?_
    have ge455 : n0 ≤ b415 := by omega
    have le_454 : h442.size ≤ h454.size := Nat.le_of_eq W454.size.symm
    have sz456 : h0.size ≤ b415 := by omega
    have K454 : Keep h0 h454 [q1] := Keep.wr K442 W454 (Or.inr sz456)
    have N454 := Fr.snoc X454 N442 ge455
    have V454 : Arv Z h454 b415 k415 .double (8 : Int32) [(.double (9218868437227405312 : UInt64)), (.double (0 : UInt64)), (.double (0 : UInt64)), (.double (0 : UInt64)), (.double (0 : UInt64)), (.double (0 : UInt64)), (.double (0 : UInt64)), (.double (0 : UInt64))] (.double (0 : UInt64)) := Arv.set Ar453 q453 S453 N453 H453 G453 rfl W454 0 rfl (Nat.le_of_ble_eq_true rfl)
    refine own_go (fun _ => XS.aloadN X454.here hx rfl (hb hby d2_77) rfl rfl) ?_
    show ∃ t o, Steps p.tables e below (T454.setTop (mkF m 78 #[.val (.ref q1), .val (.int z1), .val (.int (8 : Int32)), .val (.int (0 : Int32))] [(.ref q1)])) t ∧ _
    have ne457 : q1 ≠ b415 := own_ne (by omega)
    have F458 := (Fld.other W454 (Fld.other W442 (Fld.keep (Fld.ext E429 (Fld.other W426 (Fld.ext E423 Fw422) (Or.inr (slot_ne (a0 := a0) (Or.inr w_34) (Or.inr w_37) (by decide) (t := (.array .long)) (t' := (.array .int)) (by decide) (by decide))))) Kp433 (ninS ne445 nin0)) (Or.inl ne446)) (Or.inl ne457))
    obtain ⟨T459, X459, e459, st459⟩ := getF X454 hx hZ hown (host := "") (Or.inl w_33) Via.refl e454 F458 (g := (mkF m 78 #[.val (.ref q1), .val (.int z1), .val (.int (8 : Int32)), .val (.int (0 : Int32))] [(.ref q1)])) rfl rfl (hb hby d2_78)
    refine own_go st459 ?_
    refine own_go (fun _ => XS.iloadN X459.here hx rfl (hb hby d2_81) rfl) ?_
    refine own_go (fun _ => X459.ldc2Long hx hown (mvT hZ w_54) (g := (mkF m 82 #[.val (.ref q1), .val (.int z1), .val (.int (8 : Int32)), .val (.int (0 : Int32))] [(.int (0 : Int32)), (.ref b419)])) rfl (hb hby d2_82) _) ?_
    have ne460 : b419 ≠ q1 := own_ne (by omega)
    have ne461 : b419 ≠ b429 := own_ne (by omega)
    have ne462 : b419 ≠ b411 := own_ne (by omega)
    have ne463 : b419 ≠ b415 := own_ne (by omega)
    have F464 := (Arv.other (Arv.other (Arv.keep ((Arv.other ((Arv.other V_b419 W422 ne460).ext E423) W426 ne460).ext E429) Kp433 (ninS ne461 nin0)) W442 ne462) W454 ne463)
    obtain ⟨cl465, Ar465, q465, S465, N465, H465, G465⟩ := id F464
    have hin465 : ¬ ((0 : Int32) < 0 ∨ cl465.slots.size ≤ ((0 : Int32)).toNatClampNeg) := inb_of S465 ⟨by decide, by decide⟩
    obtain ⟨T466, h466, X466, e466, W466, st466⟩ := stJ X459 hx hZ e459 Ar465 (j := (0 : Int32)) hin465 (g := (mkF m 85 #[.val (.ref q1), .val (.int z1), .val (.int (8 : Int32)), .val (.int (0 : Int32))] [(.long (9223372036854775807 : Int64)), (.int (0 : Int32)), (.ref b419)])) rfl rfl (hb hby d2_85)
    refine own_go st466 ?_
    have ge467 : n0 ≤ b419 := by omega
    have le_466 : h454.size ≤ h466.size := Nat.le_of_eq W466.size.symm
    have sz468 : h0.size ≤ b419 := by omega
    have K466 : Keep h0 h466 [q1] := Keep.wr K454 W466 (Or.inr sz468)
    have N466 := Fr.snoc X466 N454 ge467
    have V466 : Arv Z h466 b419 k419 .long (8 : Int32) [(.long (9223372036854775807 : Int64)), (.long (0 : Int64)), (.long (0 : Int64)), (.long (0 : Int64)), (.long (0 : Int64)), (.long (0 : Int64)), (.long (0 : Int64)), (.long (0 : Int64))] (.long (0 : Int64)) := Arv.set Ar465 q465 S465 N465 H465 G465 rfl W466 0 rfl (Nat.le_of_ble_eq_true rfl)
    refine own_go (fun _ => XS.aloadN X466.here hx rfl (hb hby d2_86) rfl rfl) ?_
    have ne469 : q1 ≠ b419 := own_ne (by omega)
    have F470 := (Fld.other W466 (Fld.other W454 (Fld.other W442 (Fld.keep (Fld.ext E429 Fw426) Kp433 (ninS ne445 nin0)) (Or.inl ne446)) (Or.inl ne457)) (Or.inl ne469))
    obtain ⟨T471, X471, e471, st471⟩ := getF X466 hx hZ hown (host := "") (Or.inl w_36) Via.refl e466 F470 (g := (mkF m 87 #[.val (.ref q1), .val (.int z1), .val (.int (8 : Int32)), .val (.int (0 : Int32))] [(.ref q1)])) rfl rfl (hb hby d2_87)
    refine own_go st471 ?_
    refine own_go (fun _ => XS.iloadN X471.here hx rfl (hb hby d2_90) rfl) ?_
    refine own_go (fun _ => XS.iloadN X471.here hx rfl (hb hby d2_91) rfl) ?_
    show ∃ t o, Steps p.tables e below (T471.setTop (mkF m 92 #[.val (.ref q1), .val (.int z1), .val (.int (8 : Int32)), .val (.int (0 : Int32))] [(.int (0 : Int32)), (.int (8 : Int32)), (.ref b423)])) t ∧ _
    refine own_go (fun _ => XS.iadd X471.here hx rfl (hb hby d2_92) rfl) ?_
    refine own_go (fun _ => XS.iloadN X471.here hx rfl (hb hby d2_93) rfl) ?_
    have ne472 : b423 ≠ q1 := own_ne (by omega)
    have ne473 : b423 ≠ b429 := own_ne (by omega)
    have ne474 : b423 ≠ b411 := own_ne (by omega)
    have ne475 : b423 ≠ b415 := own_ne (by omega)
    have ne476 : b423 ≠ b419 := own_ne (by omega)
    have F477 := (Arv.other (Arv.other (Arv.other (Arv.keep ((Arv.other V_b423 W426 ne472).ext E429) Kp433 (ninS ne473 nin0)) W442 ne474) W454 ne475) W466 ne476)
    obtain ⟨cl478, Ar478, q478, S478, N478, H478, G478⟩ := id F477
    have hin478 : ¬ ((8 : Int32) < 0 ∨ cl478.slots.size ≤ ((8 : Int32)).toNatClampNeg) := inb_of S478 ⟨by decide, by decide⟩
    obtain ⟨T479, h479, X479, e479, W479, st479⟩ := stI X471 hx hZ e471 Ar478 (j := (8 : Int32)) hin478 (g := (mkF m 94 #[.val (.ref q1), .val (.int z1), .val (.int (8 : Int32)), .val (.int (0 : Int32))] [(.int (0 : Int32)), (.int (8 : Int32)), (.ref b423)])) rfl rfl (hb hby d2_94)
    refine own_go st479 ?_
    have ge480 : n0 ≤ b423 := by omega
    have le_479 : h466.size ≤ h479.size := Nat.le_of_eq W479.size.symm
    have sz481 : h0.size ≤ b423 := by omega
    have K479 : Keep h0 h479 [q1] := Keep.wr K466 W479 (Or.inr sz481)
    have N479 := Fr.snoc X479 N466 ge480
    have V479 : Arv Z h479 b423 k423 .int (16 : Int32) [(.int (0 : Int32)), (.int (0 : Int32)), (.int (0 : Int32)), (.int (0 : Int32)), (.int (0 : Int32)), (.int (0 : Int32)), (.int (0 : Int32)), (.int (0 : Int32)), (.int (0 : Int32)), (.int (0 : Int32)), (.int (0 : Int32)), (.int (0 : Int32)), (.int (0 : Int32)), (.int (0 : Int32)), (.int (0 : Int32)), (.int (0 : Int32))] (.int (0 : Int32)) := Arv.set Ar478 q478 S478 N478 H478 G478 rfl W479 8 rfl (Nat.le_of_ble_eq_true rfl)
    refine own_go (fun _ => XS.iinc X479.here hx rfl (hb hby d2_95) rfl (l' := #[.val (.ref q1), .val (.int z1), .val (.int (8 : Int32)), .val (.int (1 : Int32))]) rfl) ?_
    refine own_go (fun _ => XS.goto X479.here hx rfl (pc0 := 98) (pc' := 50) rfl (hb hby d2_98) (by decide) (by decide)) ?_
    refine own_go (fun _ => XS.iloadN X479.here hx rfl (hb hby d2_50) rfl) ?_
    refine own_go (fun _ => XS.iloadN X479.here hx rfl (hb hby d2_51) rfl) ?_
    show ∃ t o, Steps p.tables e below (T479.setTop (mkF m 52 #[.val (.ref q1), .val (.int z1), .val (.int (8 : Int32)), .val (.int (1 : Int32))] [(.int (8 : Int32)), (.int (1 : Int32))])) t ∧ _
    refine own_go (fun _ => XS.icmpNo X479.here hx rfl (hb hby d2_52) rfl (tlt (by decide : (1 : Int32) < (8 : Int32))).2.1) ?_
    refine own_go (fun _ => XS.aloadN X479.here hx rfl (hb hby d2_55) rfl rfl) ?_
    have ne482 : q1 ≠ b423 := own_ne (by omega)
    have F483 := (Fld.other W479 (Fld.other W466 (Fld.other W454 (Fld.other W442 (Fld.keep (Fld.ext E429 F427) Kp433 (ninS ne445 nin0)) (Or.inl ne446)) (Or.inl ne457)) (Or.inl ne469)) (Or.inl ne482))
    obtain ⟨T484, X484, e484, st484⟩ := getF X479 hx hZ hown (host := "") (Or.inl w_27) Via.refl e479 F483 (g := (mkF m 56 #[.val (.ref q1), .val (.int z1), .val (.int (8 : Int32)), .val (.int (1 : Int32))] [(.ref q1)])) rfl rfl (hb hby d2_56)
    refine own_go st484 ?_
    refine own_go (fun _ => XS.iloadN X484.here hx rfl (hb hby d2_59) rfl) ?_
    show ∃ t o, Steps p.tables e below (T484.setTop (mkF m 60 #[.val (.ref q1), .val (.int z1), .val (.int (8 : Int32)), .val (.int (1 : Int32))] [(.int (1 : Int32)), (.ref b411)])) t ∧ _
    obtain ⟨T485, h485, X485, e485, E485, A485, D485, -, st485⟩ := newO X484 hx hZ hown w_25 w_38 w_39 e484 (g := (mkF m 60 #[.val (.ref q1), .val (.int z1), .val (.int (8 : Int32)), .val (.int (1 : Int32))] [(.int (1 : Int32)), (.ref b411)])) rfl (hb hby d2_60) (by decide) (by decide)
    obtain ⟨b485, g485⟩ : ∃ z, z = h479.size := ⟨_, rfl⟩
    rw [← g485] at A485 D485 st485
    refine own_go st485 ?_
    have le_485 : h479.size ≤ h485.size := E485.1
    have lt_b485 : b485 < h485.size := A485.lt
    have F_moments_b485 : Fld Z h485 b485 "com/example/holdback/holdback/sim/EventQueue$Stream" "moments" "[D" .null := D485 (Or.inl w_45) (ty := (.array .double)) (by decide)
    have F_places_b485 : Fld Z h485 b485 "com/example/holdback/holdback/sim/EventQueue$Stream" "places" "[J" .null := D485 (Or.inl w_47) (ty := (.array .long)) (by decide)
    have F_actions_b485 : Fld Z h485 b485 "com/example/holdback/holdback/sim/EventQueue$Stream" "actions" "[Ljava/lang/Runnable;" .null := D485 (Or.inl w_51) (ty := (.array (.object "java/lang/Runnable"))) (by decide)
    have F_lastAt_b485 : Fld Z h485 b485 "com/example/holdback/holdback/sim/EventQueue$Stream" "lastAt" "D" (defaultValue .double) := D485 (Or.inl w_85) (ty := .double) (by decide)
    have F_size_b485 : Fld Z h485 b485 "com/example/holdback/holdback/sim/EventQueue$Stream" "size" "I" (.int (0 : Int32)) := D485 (Or.inl w_94) (ty := .int) (by decide)
    have F_first_b485 : Fld Z h485 b485 "com/example/holdback/holdback/sim/EventQueue$Stream" "first" "I" (.int (0 : Int32)) := D485 (Or.inl w_96) (ty := .int) (by decide)
    have K485 : Keep h0 h485 [q1] := Keep.ext K479 E485
    have lt486 : (ac_433 : Nat) < b485 := by omega
    refine own_go (fun _ => XS.dup X485.here hx rfl (hb hby d2_63) rfl rfl) ?_
    show ∃ t o, Steps p.tables e below (T485.setTop (mkF m 64 #[.val (.ref q1), .val (.int z1), .val (.int (8 : Int32)), .val (.int (1 : Int32))] [(.ref b485), (.ref b485), (.int (1 : Int32)), (.ref b411)])) t ∧ _
    have F487 := ((Old.wr (Old.wr (Old.wr (Old.wr (Old.keep F430 Kp433 (allS ge431 all0)) W442 ge443) W454 ge455) W466 ge467) W479 ge480).ext E485)
    have ge488 : n0 ≤ b485 := by omega
    have zl489 : n0 ≤ h485.size := by omega
    obtain ⟨_, _, ⟨T490, L490, k490, n490⟩, -, X490, ⟨Lc490, hQ490, l490, y490, z490⟩, st490⟩ := own_specR X485 hx hZ (y := (⟨"com/example/holdback/holdback/sim/EventQueue$Stream", "<init>", "()V"⟩ : MethodName)) rfl hown w_40 w_41 w_42 (by decide) (backOf (W := 3) (rmSI l Z a0 hw [] b485 h485 n0 zl489 A485 F_moments_b485 F_places_b485 F_actions_b485 F_first_b485 F_size_b485 F_lastAt_b485 F487 ge488) hZ w_42 w_39 (by decide) (by decide)) (g := (mkF m 64 #[.val (.ref q1), .val (.int z1), .val (.int (8 : Int32)), .val (.int (1 : Int32))] [(.ref b485), (.ref b485), (.int (1 : Int32)), (.ref b411)])) rfl (by rw [hml]; rfl) (Steps.refl _) (a := b485) (argsL := []) (rest := [(.ref b485), (.int (1 : Int32)), (.ref b411)]) (lenOf pd__28_29V rfl) rfl (by show 2 * 0 + _ ≤ _; exact Nat.le_of_eq rfl) (hb hby d2_64) (fun _ _ => ⟨rfl, e485, (by decide : 9 + 3 ≤ _), (by decide : 76 + 24 ≤ _)⟩)
    dsimp only [Pt.U, Pt.locs, Pt.cells, Pt.slots] at X490 l490 y490 z490 st490 hQ490
    rw [l490, y490, z490] at X490
    obtain ⟨am_490, ap_490, ac_490, km_490, kp_490, kc_490, rfl, Nq490, Kp490, G490_0, G490_1, G490_2, G490_3, G490_4, G490_5, G490_6, G490_7, G490_8, H490_0, H490_1, H490_2⟩ := hQ490
    have N490 := Fr.app N479 Nq490
    refine own_goT st490 ?_
    have le_490 : h485.size ≤ T490.heap.size := Kp490.1
    have sz491 : h0.size ≤ b485 := by omega
    have K490 : Keep h0 T490.heap [q1] := Keep.trans K485 Kp490 (allS (Or.inr sz491) all0)
    have lt_am_490 : am_490 < T490.heap.size := (G490_6).lt
    have lt_ap_490 : ap_490 < T490.heap.size := (G490_7).lt
    have lt_ac_490 : ac_490 < T490.heap.size := (G490_8).lt
    have lt492 : (b485 : Nat) < am_490 := by omega
    have F494 := (Exa.keep A485 Kp490)
    have cs493 : own_S Z T490.heap b485 (ac_490 + 1) 0 0 := ⟨am_490, ap_490, ac_490, _, _, _, _, _, _, (0 : Int32), (0 : Int32), (0 : Int32), lt492, H490_1, H490_2, Nat.lt_succ_self _, F494, G490_0, G490_1, G490_2, G490_3, G490_4, own_la G490_5, G490_6, G490_7, G490_8, own_gm, own_gp, own_gc, ⟨by decide, by decide⟩, ⟨by decide, by decide⟩, by decide⟩
    have ne495 : b411 ≠ b415 := own_ne (by omega)
    have ne496 : b411 ≠ b419 := own_ne (by omega)
    have ne497 : b411 ≠ b423 := own_ne (by omega)
    have ne498 : b411 ≠ b485 := own_ne (by omega)
    have F499 := (Arv.keep ((Arv.other (Arv.other (Arv.other V442 W454 ne495) W466 ne496) W479 ne497).ext E485) Kp490 (ninS ne498 nin0))
    obtain ⟨cl500, Ar500, q500, S500, N500, H500, G500⟩ := id F499
    have hin500 : ¬ ((1 : Int32) < 0 ∨ cl500.slots.size ≤ ((1 : Int32)).toNatClampNeg) := inb_of S500 ⟨by decide, by decide⟩
    obtain ⟨T501, h501, X501, e501, W501, st501⟩ := stR X490 hx hZ rfl Ar500 (j := (1 : Int32)) hin500 rfl (Sto.ofV Ar500 q500 O411 (Ins.self F494)) (g := (mkF m 67 #[.val (.ref q1), .val (.int z1), .val (.int (8 : Int32)), .val (.int (1 : Int32))] [(.ref b485), (.int (1 : Int32)), (.ref b411)])) rfl rfl (hb hby d2_67)
    refine own_go st501 ?_
    have le_501 : T490.heap.size ≤ h501.size := Nat.le_of_eq W501.size.symm
    have K501 : Keep h0 h501 [q1] := Keep.wr K490 W501 (Or.inr sz444)
    have N501 := Fr.snoc X501 N490 ge443
    have V501 : Arv Z h501 b411 k411 (.object "com/example/holdback/holdback/sim/EventQueue$Stream") (8 : Int32) [(.ref b429), (.ref b485), .null, .null, .null, .null, .null, .null] .null := Arv.set Ar500 q500 S500 N500 H500 G500 rfl W501 1 rfl (Nat.le_of_ble_eq_true rfl)
    refine own_go (fun _ => XS.aloadN X501.here hx rfl (hb hby d2_68) rfl rfl) ?_
    have ne502 : q1 ≠ b485 := own_ne (by omega)
    have F503 := (Fld.other W501 (Fld.keep (Fld.ext E485 (Fld.other W479 (Fld.other W466 (Fld.other W454 F447 (Or.inl ne457)) (Or.inl ne469)) (Or.inl ne482))) Kp490 (ninS ne502 nin0)) (Or.inl ne446))
    obtain ⟨T504, X504, e504, st504⟩ := getF X501 hx hZ hown (host := "") (Or.inl w_30) Via.refl e501 F503 (g := (mkF m 69 #[.val (.ref q1), .val (.int z1), .val (.int (8 : Int32)), .val (.int (1 : Int32))] [(.ref q1)])) rfl rfl (hb hby d2_69)
    refine own_go st504 ?_
    refine own_go (fun _ => XS.iloadN X504.here hx rfl (hb hby d2_72) rfl) ?_
    refine own_go (fun _ => X504.ldc2DoubleC hx hown (mvT hZ w_53) (g := (mkF m 73 #[.val (.ref q1), .val (.int z1), .val (.int (8 : Int32)), .val (.int (1 : Int32))] [(.int (1 : Int32)), (.ref b415)])) rfl (hb hby d2_73) _) ?_
    have ne505 : b415 ≠ b419 := own_ne (by omega)
    have ne506 : b415 ≠ b423 := own_ne (by omega)
    have ne507 : b415 ≠ b485 := own_ne (by omega)
    have F508 := (Arv.other (Arv.keep ((Arv.other (Arv.other V454 W466 ne505) W479 ne506).ext E485) Kp490 (ninS ne507 nin0)) W501 ne451)
    obtain ⟨cl509, Ar509, q509, S509, N509, H509, G509⟩ := id F508
    have hin509 : ¬ ((1 : Int32) < 0 ∨ cl509.slots.size ≤ ((1 : Int32)).toNatClampNeg) := inb_of S509 ⟨by decide, by decide⟩
    obtain ⟨T510, h510, X510, e510, W510, st510⟩ := stD X504 hx hZ e504 Ar509 (j := (1 : Int32)) hin509 (g := (mkF m 76 #[.val (.ref q1), .val (.int z1), .val (.int (8 : Int32)), .val (.int (1 : Int32))] [(.double (9218868437227405312 : UInt64)), (.int (1 : Int32)), (.ref b415)])) rfl rfl (hb hby d2_76)
    refine own_go st510 ?_
    have le_510 : h501.size ≤ h510.size := Nat.le_of_eq W510.size.symm
    have K510 : Keep h0 h510 [q1] := Keep.wr K501 W510 (Or.inr sz456)
    have N510 := Fr.snoc X510 N501 ge455
    have V510 : Arv Z h510 b415 k415 .double (8 : Int32) [(.double (9218868437227405312 : UInt64)), (.double (9218868437227405312 : UInt64)), (.double (0 : UInt64)), (.double (0 : UInt64)), (.double (0 : UInt64)), (.double (0 : UInt64)), (.double (0 : UInt64)), (.double (0 : UInt64))] (.double (0 : UInt64)) := Arv.set Ar509 q509 S509 N509 H509 G509 rfl W510 1 rfl (Nat.le_of_ble_eq_true rfl)
    refine own_go (fun _ => XS.aloadN X510.here hx rfl (hb hby d2_77) rfl rfl) ?_
    show ∃ t o, Steps p.tables e below (T510.setTop (mkF m 78 #[.val (.ref q1), .val (.int z1), .val (.int (8 : Int32)), .val (.int (1 : Int32))] [(.ref q1)])) t ∧ _
    have F511 := (Fld.other W510 (Fld.other W501 (Fld.keep (Fld.ext E485 (Fld.other W479 (Fld.other W466 F458 (Or.inl ne469)) (Or.inl ne482))) Kp490 (ninS ne502 nin0)) (Or.inl ne446)) (Or.inl ne457))
    obtain ⟨T512, X512, e512, st512⟩ := getF X510 hx hZ hown (host := "") (Or.inl w_33) Via.refl e510 F511 (g := (mkF m 78 #[.val (.ref q1), .val (.int z1), .val (.int (8 : Int32)), .val (.int (1 : Int32))] [(.ref q1)])) rfl rfl (hb hby d2_78)
    refine own_go st512 ?_
    refine own_go (fun _ => XS.iloadN X512.here hx rfl (hb hby d2_81) rfl) ?_
    refine own_go (fun _ => X512.ldc2Long hx hown (mvT hZ w_54) (g := (mkF m 82 #[.val (.ref q1), .val (.int z1), .val (.int (8 : Int32)), .val (.int (1 : Int32))] [(.int (1 : Int32)), (.ref b419)])) rfl (hb hby d2_82) _) ?_
    have ne513 : b419 ≠ b423 := own_ne (by omega)
    have ne514 : b419 ≠ b485 := own_ne (by omega)
    have F515 := (Arv.other (Arv.other (Arv.keep ((Arv.other V466 W479 ne513).ext E485) Kp490 (ninS ne514 nin0)) W501 ne462) W510 ne463)
    obtain ⟨cl516, Ar516, q516, S516, N516, H516, G516⟩ := id F515
    have hin516 : ¬ ((1 : Int32) < 0 ∨ cl516.slots.size ≤ ((1 : Int32)).toNatClampNeg) := inb_of S516 ⟨by decide, by decide⟩
    obtain ⟨T517, h517, X517, e517, W517, st517⟩ := stJ X512 hx hZ e512 Ar516 (j := (1 : Int32)) hin516 (g := (mkF m 85 #[.val (.ref q1), .val (.int z1), .val (.int (8 : Int32)), .val (.int (1 : Int32))] [(.long (9223372036854775807 : Int64)), (.int (1 : Int32)), (.ref b419)])) rfl rfl (hb hby d2_85)
    refine own_go st517 ?_
    have le_517 : h510.size ≤ h517.size := Nat.le_of_eq W517.size.symm
    have K517 : Keep h0 h517 [q1] := Keep.wr K510 W517 (Or.inr sz468)
    have N517 := Fr.snoc X517 N510 ge467
    have V517 : Arv Z h517 b419 k419 .long (8 : Int32) [(.long (9223372036854775807 : Int64)), (.long (9223372036854775807 : Int64)), (.long (0 : Int64)), (.long (0 : Int64)), (.long (0 : Int64)), (.long (0 : Int64)), (.long (0 : Int64)), (.long (0 : Int64))] (.long (0 : Int64)) := Arv.set Ar516 q516 S516 N516 H516 G516 rfl W517 1 rfl (Nat.le_of_ble_eq_true rfl)
    refine own_go (fun _ => XS.aloadN X517.here hx rfl (hb hby d2_86) rfl rfl) ?_
    have F518 := (Fld.other W517 (Fld.other W510 (Fld.other W501 (Fld.keep (Fld.ext E485 (Fld.other W479 F470 (Or.inl ne482))) Kp490 (ninS ne502 nin0)) (Or.inl ne446)) (Or.inl ne457)) (Or.inl ne469))
    obtain ⟨T519, X519, e519, st519⟩ := getF X517 hx hZ hown (host := "") (Or.inl w_36) Via.refl e517 F518 (g := (mkF m 87 #[.val (.ref q1), .val (.int z1), .val (.int (8 : Int32)), .val (.int (1 : Int32))] [(.ref q1)])) rfl rfl (hb hby d2_87)
    refine own_go st519 ?_
    refine own_go (fun _ => XS.iloadN X519.here hx rfl (hb hby d2_90) rfl) ?_
    refine own_go (fun _ => XS.iloadN X519.here hx rfl (hb hby d2_91) rfl) ?_
    show ∃ t o, Steps p.tables e below (T519.setTop (mkF m 92 #[.val (.ref q1), .val (.int z1), .val (.int (8 : Int32)), .val (.int (1 : Int32))] [(.int (1 : Int32)), (.int (8 : Int32)), (.ref b423)])) t ∧ _
    refine own_go (fun _ => XS.iadd X519.here hx rfl (hb hby d2_92) rfl) ?_
    refine own_go (fun _ => XS.iloadN X519.here hx rfl (hb hby d2_93) rfl) ?_
    have ne520 : b423 ≠ b485 := own_ne (by omega)
    have F521 := (Arv.other (Arv.other (Arv.other (Arv.keep (V479.ext E485) Kp490 (ninS ne520 nin0)) W501 ne474) W510 ne475) W517 ne476)
    obtain ⟨cl522, Ar522, q522, S522, N522, H522, G522⟩ := id F521
    have hin522 : ¬ ((9 : Int32) < 0 ∨ cl522.slots.size ≤ ((9 : Int32)).toNatClampNeg) := inb_of S522 ⟨by decide, by decide⟩
    obtain ⟨T523, h523, X523, e523, W523, st523⟩ := stI X519 hx hZ e519 Ar522 (j := (9 : Int32)) hin522 (g := (mkF m 94 #[.val (.ref q1), .val (.int z1), .val (.int (8 : Int32)), .val (.int (1 : Int32))] [(.int (1 : Int32)), (.int (9 : Int32)), (.ref b423)])) rfl rfl (hb hby d2_94)
    refine own_go st523 ?_
    have le_523 : h517.size ≤ h523.size := Nat.le_of_eq W523.size.symm
    have K523 : Keep h0 h523 [q1] := Keep.wr K517 W523 (Or.inr sz481)
    have N523 := Fr.snoc X523 N517 ge480
    have V523 : Arv Z h523 b423 k423 .int (16 : Int32) [(.int (0 : Int32)), (.int (0 : Int32)), (.int (0 : Int32)), (.int (0 : Int32)), (.int (0 : Int32)), (.int (0 : Int32)), (.int (0 : Int32)), (.int (0 : Int32)), (.int (0 : Int32)), (.int (1 : Int32)), (.int (0 : Int32)), (.int (0 : Int32)), (.int (0 : Int32)), (.int (0 : Int32)), (.int (0 : Int32)), (.int (0 : Int32))] (.int (0 : Int32)) := Arv.set Ar522 q522 S522 N522 H522 G522 rfl W523 9 rfl (Nat.le_of_ble_eq_true rfl)
    refine own_go (fun _ => XS.iinc X523.here hx rfl (hb hby d2_95) rfl (l' := #[.val (.ref q1), .val (.int z1), .val (.int (8 : Int32)), .val (.int (2 : Int32))]) rfl) ?_
    refine own_go (fun _ => XS.goto X523.here hx rfl (pc0 := 98) (pc' := 50) rfl (hb hby d2_98) (by decide) (by decide)) ?_
    refine own_go (fun _ => XS.iloadN X523.here hx rfl (hb hby d2_50) rfl) ?_
    refine own_go (fun _ => XS.iloadN X523.here hx rfl (hb hby d2_51) rfl) ?_
    show ∃ t o, Steps p.tables e below (T523.setTop (mkF m 52 #[.val (.ref q1), .val (.int z1), .val (.int (8 : Int32)), .val (.int (2 : Int32))] [(.int (8 : Int32)), (.int (2 : Int32))])) t ∧ _
    refine own_go (fun _ => XS.icmpNo X523.here hx rfl (hb hby d2_52) rfl (tlt (by decide : (2 : Int32) < (8 : Int32))).2.1) ?_
    refine own_go (fun _ => XS.aloadN X523.here hx rfl (hb hby d2_55) rfl rfl) ?_
    have F524 := (Fld.other W523 (Fld.other W517 (Fld.other W510 (Fld.other W501 (Fld.keep (Fld.ext E485 F483) Kp490 (ninS ne502 nin0)) (Or.inl ne446)) (Or.inl ne457)) (Or.inl ne469)) (Or.inl ne482))
    obtain ⟨T525, X525, e525, st525⟩ := getF X523 hx hZ hown (host := "") (Or.inl w_27) Via.refl e523 F524 (g := (mkF m 56 #[.val (.ref q1), .val (.int z1), .val (.int (8 : Int32)), .val (.int (2 : Int32))] [(.ref q1)])) rfl rfl (hb hby d2_56)
    refine own_go st525 ?_
    refine own_go (fun _ => XS.iloadN X525.here hx rfl (hb hby d2_59) rfl) ?_
    show ∃ t o, Steps p.tables e below (T525.setTop (mkF m 60 #[.val (.ref q1), .val (.int z1), .val (.int (8 : Int32)), .val (.int (2 : Int32))] [(.int (2 : Int32)), (.ref b411)])) t ∧ _
    obtain ⟨T526, h526, X526, e526, E526, A526, D526, -, st526⟩ := newO X525 hx hZ hown w_25 w_38 w_39 e525 (g := (mkF m 60 #[.val (.ref q1), .val (.int z1), .val (.int (8 : Int32)), .val (.int (2 : Int32))] [(.int (2 : Int32)), (.ref b411)])) rfl (hb hby d2_60) (by decide) (by decide)
    obtain ⟨b526, g526⟩ : ∃ z, z = h523.size := ⟨_, rfl⟩
    rw [← g526] at A526 D526 st526
    refine own_go st526 ?_
    have le_526 : h523.size ≤ h526.size := E526.1
    have lt_b526 : b526 < h526.size := A526.lt
    have F_moments_b526 : Fld Z h526 b526 "com/example/holdback/holdback/sim/EventQueue$Stream" "moments" "[D" .null := D526 (Or.inl w_45) (ty := (.array .double)) (by decide)
    have F_places_b526 : Fld Z h526 b526 "com/example/holdback/holdback/sim/EventQueue$Stream" "places" "[J" .null := D526 (Or.inl w_47) (ty := (.array .long)) (by decide)
    have F_actions_b526 : Fld Z h526 b526 "com/example/holdback/holdback/sim/EventQueue$Stream" "actions" "[Ljava/lang/Runnable;" .null := D526 (Or.inl w_51) (ty := (.array (.object "java/lang/Runnable"))) (by decide)
    have F_lastAt_b526 : Fld Z h526 b526 "com/example/holdback/holdback/sim/EventQueue$Stream" "lastAt" "D" (defaultValue .double) := D526 (Or.inl w_85) (ty := .double) (by decide)
    have F_size_b526 : Fld Z h526 b526 "com/example/holdback/holdback/sim/EventQueue$Stream" "size" "I" (.int (0 : Int32)) := D526 (Or.inl w_94) (ty := .int) (by decide)
    have F_first_b526 : Fld Z h526 b526 "com/example/holdback/holdback/sim/EventQueue$Stream" "first" "I" (.int (0 : Int32)) := D526 (Or.inl w_96) (ty := .int) (by decide)
    have K526 : Keep h0 h526 [q1] := Keep.ext K523 E526
    have lt527 : (ac_490 : Nat) < b526 := by omega
    refine own_go (fun _ => XS.dup X526.here hx rfl (hb hby d2_63) rfl rfl) ?_
    show ∃ t o, Steps p.tables e below (T526.setTop (mkF m 64 #[.val (.ref q1), .val (.int z1), .val (.int (8 : Int32)), .val (.int (2 : Int32))] [(.ref b526), (.ref b526), (.int (2 : Int32)), (.ref b411)])) t ∧ _
    have F528 := ((Old.wr (Old.wr (Old.wr (Old.wr (Old.keep F487 Kp490 (allS ge488 all0)) W501 ge443) W510 ge455) W517 ge467) W523 ge480).ext E526)
    have ge529 : n0 ≤ b526 := by omega
    have zl530 : n0 ≤ h526.size := by omega
    obtain ⟨_, _, ⟨T531, L531, k531, n531⟩, -, X531, ⟨Lc531, hQ531, l531, y531, z531⟩, st531⟩ := own_specR X526 hx hZ (y := (⟨"com/example/holdback/holdback/sim/EventQueue$Stream", "<init>", "()V"⟩ : MethodName)) rfl hown w_40 w_41 w_42 (by decide) (backOf (W := 3) (rmSI l Z a0 hw [] b526 h526 n0 zl530 A526 F_moments_b526 F_places_b526 F_actions_b526 F_first_b526 F_size_b526 F_lastAt_b526 F528 ge529) hZ w_42 w_39 (by decide) (by decide)) (g := (mkF m 64 #[.val (.ref q1), .val (.int z1), .val (.int (8 : Int32)), .val (.int (2 : Int32))] [(.ref b526), (.ref b526), (.int (2 : Int32)), (.ref b411)])) rfl (by rw [hml]; rfl) (Steps.refl _) (a := b526) (argsL := []) (rest := [(.ref b526), (.int (2 : Int32)), (.ref b411)]) (lenOf pd__28_29V rfl) rfl (by show 2 * 0 + _ ≤ _; exact Nat.le_of_eq rfl) (hb hby d2_64) (fun _ _ => ⟨rfl, e526, (by decide : 13 + 3 ≤ _), (by decide : 106 + 24 ≤ _)⟩)
    dsimp only [Pt.U, Pt.locs, Pt.cells, Pt.slots] at X531 l531 y531 z531 st531 hQ531
    rw [l531, y531, z531] at X531
    obtain ⟨am_531, ap_531, ac_531, km_531, kp_531, kc_531, rfl, Nq531, Kp531, G531_0, G531_1, G531_2, G531_3, G531_4, G531_5, G531_6, G531_7, G531_8, H531_0, H531_1, H531_2⟩ := hQ531
    have N531 := Fr.app N523 Nq531
    refine own_goT st531 ?_
    have le_531 : h526.size ≤ T531.heap.size := Kp531.1
    have sz532 : h0.size ≤ b526 := by omega
    have K531 : Keep h0 T531.heap [q1] := Keep.trans K526 Kp531 (allS (Or.inr sz532) all0)
    have lt_am_531 : am_531 < T531.heap.size := (G531_6).lt
    have lt_ap_531 : ap_531 < T531.heap.size := (G531_7).lt
    have lt_ac_531 : ac_531 < T531.heap.size := (G531_8).lt
    have lt533 : (b526 : Nat) < am_531 := by omega
    have F535 := (Exa.keep A526 Kp531)
    have cs534 : own_S Z T531.heap b526 (ac_531 + 1) 0 0 := ⟨am_531, ap_531, ac_531, _, _, _, _, _, _, (0 : Int32), (0 : Int32), (0 : Int32), lt533, H531_1, H531_2, Nat.lt_succ_self _, F535, G531_0, G531_1, G531_2, G531_3, G531_4, own_la G531_5, G531_6, G531_7, G531_8, own_gm, own_gp, own_gc, ⟨by decide, by decide⟩, ⟨by decide, by decide⟩, by decide⟩
    have ne536 : b411 ≠ b526 := own_ne (by omega)
    have F537 := (Arv.keep ((Arv.other (Arv.other (Arv.other V501 W510 ne495) W517 ne496) W523 ne497).ext E526) Kp531 (ninS ne536 nin0))
    obtain ⟨cl538, Ar538, q538, S538, N538, H538, G538⟩ := id F537
    have hin538 : ¬ ((2 : Int32) < 0 ∨ cl538.slots.size ≤ ((2 : Int32)).toNatClampNeg) := inb_of S538 ⟨by decide, by decide⟩
    obtain ⟨T539, h539, X539, e539, W539, st539⟩ := stR X531 hx hZ rfl Ar538 (j := (2 : Int32)) hin538 rfl (Sto.ofV Ar538 q538 O411 (Ins.self F535)) (g := (mkF m 67 #[.val (.ref q1), .val (.int z1), .val (.int (8 : Int32)), .val (.int (2 : Int32))] [(.ref b526), (.int (2 : Int32)), (.ref b411)])) rfl rfl (hb hby d2_67)
    refine own_go st539 ?_
    have le_539 : T531.heap.size ≤ h539.size := Nat.le_of_eq W539.size.symm
    have K539 : Keep h0 h539 [q1] := Keep.wr K531 W539 (Or.inr sz444)
    have N539 := Fr.snoc X539 N531 ge443
    have V539 : Arv Z h539 b411 k411 (.object "com/example/holdback/holdback/sim/EventQueue$Stream") (8 : Int32) [(.ref b429), (.ref b485), (.ref b526), .null, .null, .null, .null, .null] .null := Arv.set Ar538 q538 S538 N538 H538 G538 rfl W539 2 rfl (Nat.le_of_ble_eq_true rfl)
    refine own_go (fun _ => XS.aloadN X539.here hx rfl (hb hby d2_68) rfl rfl) ?_
    have ne540 : q1 ≠ b526 := own_ne (by omega)
    have F541 := (Fld.other W539 (Fld.keep (Fld.ext E526 (Fld.other W523 (Fld.other W517 (Fld.other W510 F503 (Or.inl ne457)) (Or.inl ne469)) (Or.inl ne482))) Kp531 (ninS ne540 nin0)) (Or.inl ne446))
    obtain ⟨T542, X542, e542, st542⟩ := getF X539 hx hZ hown (host := "") (Or.inl w_30) Via.refl e539 F541 (g := (mkF m 69 #[.val (.ref q1), .val (.int z1), .val (.int (8 : Int32)), .val (.int (2 : Int32))] [(.ref q1)])) rfl rfl (hb hby d2_69)
    refine own_go st542 ?_
    refine own_go (fun _ => XS.iloadN X542.here hx rfl (hb hby d2_72) rfl) ?_
    refine own_go (fun _ => X542.ldc2DoubleC hx hown (mvT hZ w_53) (g := (mkF m 73 #[.val (.ref q1), .val (.int z1), .val (.int (8 : Int32)), .val (.int (2 : Int32))] [(.int (2 : Int32)), (.ref b415)])) rfl (hb hby d2_73) _) ?_
    have ne543 : b415 ≠ b526 := own_ne (by omega)
    have F544 := (Arv.other (Arv.keep ((Arv.other (Arv.other V510 W517 ne505) W523 ne506).ext E526) Kp531 (ninS ne543 nin0)) W539 ne451)
    obtain ⟨cl545, Ar545, q545, S545, N545, H545, G545⟩ := id F544
    have hin545 : ¬ ((2 : Int32) < 0 ∨ cl545.slots.size ≤ ((2 : Int32)).toNatClampNeg) := inb_of S545 ⟨by decide, by decide⟩
    obtain ⟨T546, h546, X546, e546, W546, st546⟩ := stD X542 hx hZ e542 Ar545 (j := (2 : Int32)) hin545 (g := (mkF m 76 #[.val (.ref q1), .val (.int z1), .val (.int (8 : Int32)), .val (.int (2 : Int32))] [(.double (9218868437227405312 : UInt64)), (.int (2 : Int32)), (.ref b415)])) rfl rfl (hb hby d2_76)
    refine own_go st546 ?_
    have le_546 : h539.size ≤ h546.size := Nat.le_of_eq W546.size.symm
    have K546 : Keep h0 h546 [q1] := Keep.wr K539 W546 (Or.inr sz456)
    have N546 := Fr.snoc X546 N539 ge455
    have V546 : Arv Z h546 b415 k415 .double (8 : Int32) [(.double (9218868437227405312 : UInt64)), (.double (9218868437227405312 : UInt64)), (.double (9218868437227405312 : UInt64)), (.double (0 : UInt64)), (.double (0 : UInt64)), (.double (0 : UInt64)), (.double (0 : UInt64)), (.double (0 : UInt64))] (.double (0 : UInt64)) := Arv.set Ar545 q545 S545 N545 H545 G545 rfl W546 2 rfl (Nat.le_of_ble_eq_true rfl)
    refine own_go (fun _ => XS.aloadN X546.here hx rfl (hb hby d2_77) rfl rfl) ?_
    show ∃ t o, Steps p.tables e below (T546.setTop (mkF m 78 #[.val (.ref q1), .val (.int z1), .val (.int (8 : Int32)), .val (.int (2 : Int32))] [(.ref q1)])) t ∧ _
    have F547 := (Fld.other W546 (Fld.other W539 (Fld.keep (Fld.ext E526 (Fld.other W523 (Fld.other W517 F511 (Or.inl ne469)) (Or.inl ne482))) Kp531 (ninS ne540 nin0)) (Or.inl ne446)) (Or.inl ne457))
    obtain ⟨T548, X548, e548, st548⟩ := getF X546 hx hZ hown (host := "") (Or.inl w_33) Via.refl e546 F547 (g := (mkF m 78 #[.val (.ref q1), .val (.int z1), .val (.int (8 : Int32)), .val (.int (2 : Int32))] [(.ref q1)])) rfl rfl (hb hby d2_78)
    refine own_go st548 ?_
    refine own_go (fun _ => XS.iloadN X548.here hx rfl (hb hby d2_81) rfl) ?_
    refine own_go (fun _ => X548.ldc2Long hx hown (mvT hZ w_54) (g := (mkF m 82 #[.val (.ref q1), .val (.int z1), .val (.int (8 : Int32)), .val (.int (2 : Int32))] [(.int (2 : Int32)), (.ref b419)])) rfl (hb hby d2_82) _) ?_
    have ne549 : b419 ≠ b526 := own_ne (by omega)
    have F550 := (Arv.other (Arv.other (Arv.keep ((Arv.other V517 W523 ne513).ext E526) Kp531 (ninS ne549 nin0)) W539 ne462) W546 ne463)
    obtain ⟨cl551, Ar551, q551, S551, N551, H551, G551⟩ := id F550
    have hin551 : ¬ ((2 : Int32) < 0 ∨ cl551.slots.size ≤ ((2 : Int32)).toNatClampNeg) := inb_of S551 ⟨by decide, by decide⟩
    obtain ⟨T552, h552, X552, e552, W552, st552⟩ := stJ X548 hx hZ e548 Ar551 (j := (2 : Int32)) hin551 (g := (mkF m 85 #[.val (.ref q1), .val (.int z1), .val (.int (8 : Int32)), .val (.int (2 : Int32))] [(.long (9223372036854775807 : Int64)), (.int (2 : Int32)), (.ref b419)])) rfl rfl (hb hby d2_85)
    refine own_go st552 ?_
    have le_552 : h546.size ≤ h552.size := Nat.le_of_eq W552.size.symm
    have K552 : Keep h0 h552 [q1] := Keep.wr K546 W552 (Or.inr sz468)
    have N552 := Fr.snoc X552 N546 ge467
    have V552 : Arv Z h552 b419 k419 .long (8 : Int32) [(.long (9223372036854775807 : Int64)), (.long (9223372036854775807 : Int64)), (.long (9223372036854775807 : Int64)), (.long (0 : Int64)), (.long (0 : Int64)), (.long (0 : Int64)), (.long (0 : Int64)), (.long (0 : Int64))] (.long (0 : Int64)) := Arv.set Ar551 q551 S551 N551 H551 G551 rfl W552 2 rfl (Nat.le_of_ble_eq_true rfl)
    refine own_go (fun _ => XS.aloadN X552.here hx rfl (hb hby d2_86) rfl rfl) ?_
    have F553 := (Fld.other W552 (Fld.other W546 (Fld.other W539 (Fld.keep (Fld.ext E526 (Fld.other W523 F518 (Or.inl ne482))) Kp531 (ninS ne540 nin0)) (Or.inl ne446)) (Or.inl ne457)) (Or.inl ne469))
    obtain ⟨T554, X554, e554, st554⟩ := getF X552 hx hZ hown (host := "") (Or.inl w_36) Via.refl e552 F553 (g := (mkF m 87 #[.val (.ref q1), .val (.int z1), .val (.int (8 : Int32)), .val (.int (2 : Int32))] [(.ref q1)])) rfl rfl (hb hby d2_87)
    refine own_go st554 ?_
    refine own_go (fun _ => XS.iloadN X554.here hx rfl (hb hby d2_90) rfl) ?_
    refine own_go (fun _ => XS.iloadN X554.here hx rfl (hb hby d2_91) rfl) ?_
    show ∃ t o, Steps p.tables e below (T554.setTop (mkF m 92 #[.val (.ref q1), .val (.int z1), .val (.int (8 : Int32)), .val (.int (2 : Int32))] [(.int (2 : Int32)), (.int (8 : Int32)), (.ref b423)])) t ∧ _
    refine own_go (fun _ => XS.iadd X554.here hx rfl (hb hby d2_92) rfl) ?_
    refine own_go (fun _ => XS.iloadN X554.here hx rfl (hb hby d2_93) rfl) ?_
    have ne555 : b423 ≠ b526 := own_ne (by omega)
    have F556 := (Arv.other (Arv.other (Arv.other (Arv.keep (V523.ext E526) Kp531 (ninS ne555 nin0)) W539 ne474) W546 ne475) W552 ne476)
    obtain ⟨cl557, Ar557, q557, S557, N557, H557, G557⟩ := id F556
    have hin557 : ¬ ((10 : Int32) < 0 ∨ cl557.slots.size ≤ ((10 : Int32)).toNatClampNeg) := inb_of S557 ⟨by decide, by decide⟩
    obtain ⟨T558, h558, X558, e558, W558, st558⟩ := stI X554 hx hZ e554 Ar557 (j := (10 : Int32)) hin557 (g := (mkF m 94 #[.val (.ref q1), .val (.int z1), .val (.int (8 : Int32)), .val (.int (2 : Int32))] [(.int (2 : Int32)), (.int (10 : Int32)), (.ref b423)])) rfl rfl (hb hby d2_94)
    refine own_go st558 ?_
    have le_558 : h552.size ≤ h558.size := Nat.le_of_eq W558.size.symm
    have K558 : Keep h0 h558 [q1] := Keep.wr K552 W558 (Or.inr sz481)
    have N558 := Fr.snoc X558 N552 ge480
    have V558 : Arv Z h558 b423 k423 .int (16 : Int32) [(.int (0 : Int32)), (.int (0 : Int32)), (.int (0 : Int32)), (.int (0 : Int32)), (.int (0 : Int32)), (.int (0 : Int32)), (.int (0 : Int32)), (.int (0 : Int32)), (.int (0 : Int32)), (.int (1 : Int32)), (.int (2 : Int32)), (.int (0 : Int32)), (.int (0 : Int32)), (.int (0 : Int32)), (.int (0 : Int32)), (.int (0 : Int32))] (.int (0 : Int32)) := Arv.set Ar557 q557 S557 N557 H557 G557 rfl W558 10 rfl (Nat.le_of_ble_eq_true rfl)
    refine own_go (fun _ => XS.iinc X558.here hx rfl (hb hby d2_95) rfl (l' := #[.val (.ref q1), .val (.int z1), .val (.int (8 : Int32)), .val (.int (3 : Int32))]) rfl) ?_
    refine own_go (fun _ => XS.goto X558.here hx rfl (pc0 := 98) (pc' := 50) rfl (hb hby d2_98) (by decide) (by decide)) ?_
    refine own_go (fun _ => XS.iloadN X558.here hx rfl (hb hby d2_50) rfl) ?_
    refine own_go (fun _ => XS.iloadN X558.here hx rfl (hb hby d2_51) rfl) ?_
    show ∃ t o, Steps p.tables e below (T558.setTop (mkF m 52 #[.val (.ref q1), .val (.int z1), .val (.int (8 : Int32)), .val (.int (3 : Int32))] [(.int (8 : Int32)), (.int (3 : Int32))])) t ∧ _
    refine own_go (fun _ => XS.icmpNo X558.here hx rfl (hb hby d2_52) rfl (tlt (by decide : (3 : Int32) < (8 : Int32))).2.1) ?_
    refine own_go (fun _ => XS.aloadN X558.here hx rfl (hb hby d2_55) rfl rfl) ?_
    have F559 := (Fld.other W558 (Fld.other W552 (Fld.other W546 (Fld.other W539 (Fld.keep (Fld.ext E526 F524) Kp531 (ninS ne540 nin0)) (Or.inl ne446)) (Or.inl ne457)) (Or.inl ne469)) (Or.inl ne482))
    obtain ⟨T560, X560, e560, st560⟩ := getF X558 hx hZ hown (host := "") (Or.inl w_27) Via.refl e558 F559 (g := (mkF m 56 #[.val (.ref q1), .val (.int z1), .val (.int (8 : Int32)), .val (.int (3 : Int32))] [(.ref q1)])) rfl rfl (hb hby d2_56)
    refine own_go st560 ?_
    refine own_go (fun _ => XS.iloadN X560.here hx rfl (hb hby d2_59) rfl) ?_
    show ∃ t o, Steps p.tables e below (T560.setTop (mkF m 60 #[.val (.ref q1), .val (.int z1), .val (.int (8 : Int32)), .val (.int (3 : Int32))] [(.int (3 : Int32)), (.ref b411)])) t ∧ _
    obtain ⟨T561, h561, X561, e561, E561, A561, D561, -, st561⟩ := newO X560 hx hZ hown w_25 w_38 w_39 e560 (g := (mkF m 60 #[.val (.ref q1), .val (.int z1), .val (.int (8 : Int32)), .val (.int (3 : Int32))] [(.int (3 : Int32)), (.ref b411)])) rfl (hb hby d2_60) (by decide) (by decide)
    obtain ⟨b561, g561⟩ : ∃ z, z = h558.size := ⟨_, rfl⟩
    rw [← g561] at A561 D561 st561
    refine own_go st561 ?_
    have le_561 : h558.size ≤ h561.size := E561.1
    have lt_b561 : b561 < h561.size := A561.lt
    have F_moments_b561 : Fld Z h561 b561 "com/example/holdback/holdback/sim/EventQueue$Stream" "moments" "[D" .null := D561 (Or.inl w_45) (ty := (.array .double)) (by decide)
    have F_places_b561 : Fld Z h561 b561 "com/example/holdback/holdback/sim/EventQueue$Stream" "places" "[J" .null := D561 (Or.inl w_47) (ty := (.array .long)) (by decide)
    have F_actions_b561 : Fld Z h561 b561 "com/example/holdback/holdback/sim/EventQueue$Stream" "actions" "[Ljava/lang/Runnable;" .null := D561 (Or.inl w_51) (ty := (.array (.object "java/lang/Runnable"))) (by decide)
    have F_lastAt_b561 : Fld Z h561 b561 "com/example/holdback/holdback/sim/EventQueue$Stream" "lastAt" "D" (defaultValue .double) := D561 (Or.inl w_85) (ty := .double) (by decide)
    have F_size_b561 : Fld Z h561 b561 "com/example/holdback/holdback/sim/EventQueue$Stream" "size" "I" (.int (0 : Int32)) := D561 (Or.inl w_94) (ty := .int) (by decide)
    have F_first_b561 : Fld Z h561 b561 "com/example/holdback/holdback/sim/EventQueue$Stream" "first" "I" (.int (0 : Int32)) := D561 (Or.inl w_96) (ty := .int) (by decide)
    have K561 : Keep h0 h561 [q1] := Keep.ext K558 E561
    have lt562 : (ac_531 : Nat) < b561 := by omega
    refine own_go (fun _ => XS.dup X561.here hx rfl (hb hby d2_63) rfl rfl) ?_
    show ∃ t o, Steps p.tables e below (T561.setTop (mkF m 64 #[.val (.ref q1), .val (.int z1), .val (.int (8 : Int32)), .val (.int (3 : Int32))] [(.ref b561), (.ref b561), (.int (3 : Int32)), (.ref b411)])) t ∧ _
    have F563 := ((Old.wr (Old.wr (Old.wr (Old.wr (Old.keep F528 Kp531 (allS ge529 all0)) W539 ge443) W546 ge455) W552 ge467) W558 ge480).ext E561)
    have ge564 : n0 ≤ b561 := by omega
    have zl565 : n0 ≤ h561.size := by omega
    obtain ⟨_, _, ⟨T566, L566, k566, n566⟩, -, X566, ⟨Lc566, hQ566, l566, y566, z566⟩, st566⟩ := own_specR X561 hx hZ (y := (⟨"com/example/holdback/holdback/sim/EventQueue$Stream", "<init>", "()V"⟩ : MethodName)) rfl hown w_40 w_41 w_42 (by decide) (backOf (W := 3) (rmSI l Z a0 hw [] b561 h561 n0 zl565 A561 F_moments_b561 F_places_b561 F_actions_b561 F_first_b561 F_size_b561 F_lastAt_b561 F563 ge564) hZ w_42 w_39 (by decide) (by decide)) (g := (mkF m 64 #[.val (.ref q1), .val (.int z1), .val (.int (8 : Int32)), .val (.int (3 : Int32))] [(.ref b561), (.ref b561), (.int (3 : Int32)), (.ref b411)])) rfl (by rw [hml]; rfl) (Steps.refl _) (a := b561) (argsL := []) (rest := [(.ref b561), (.int (3 : Int32)), (.ref b411)]) (lenOf pd__28_29V rfl) rfl (by show 2 * 0 + _ ≤ _; exact Nat.le_of_eq rfl) (hb hby d2_64) (fun _ _ => ⟨rfl, e561, (by decide : 17 + 3 ≤ _), (by decide : 136 + 24 ≤ _)⟩)
    dsimp only [Pt.U, Pt.locs, Pt.cells, Pt.slots] at X566 l566 y566 z566 st566 hQ566
    rw [l566, y566, z566] at X566
    obtain ⟨am_566, ap_566, ac_566, km_566, kp_566, kc_566, rfl, Nq566, Kp566, G566_0, G566_1, G566_2, G566_3, G566_4, G566_5, G566_6, G566_7, G566_8, H566_0, H566_1, H566_2⟩ := hQ566
    have N566 := Fr.app N558 Nq566
    refine own_goT st566 ?_
    have le_566 : h561.size ≤ T566.heap.size := Kp566.1
    have sz567 : h0.size ≤ b561 := by omega
    have K566 : Keep h0 T566.heap [q1] := Keep.trans K561 Kp566 (allS (Or.inr sz567) all0)
    have lt_am_566 : am_566 < T566.heap.size := (G566_6).lt
    have lt_ap_566 : ap_566 < T566.heap.size := (G566_7).lt
    have lt_ac_566 : ac_566 < T566.heap.size := (G566_8).lt
    have lt568 : (b561 : Nat) < am_566 := by omega
    have F570 := (Exa.keep A561 Kp566)
    have cs569 : own_S Z T566.heap b561 (ac_566 + 1) 0 0 := ⟨am_566, ap_566, ac_566, _, _, _, _, _, _, (0 : Int32), (0 : Int32), (0 : Int32), lt568, H566_1, H566_2, Nat.lt_succ_self _, F570, G566_0, G566_1, G566_2, G566_3, G566_4, own_la G566_5, G566_6, G566_7, G566_8, own_gm, own_gp, own_gc, ⟨by decide, by decide⟩, ⟨by decide, by decide⟩, by decide⟩
    have ne571 : b411 ≠ b561 := own_ne (by omega)
    have F572 := (Arv.keep ((Arv.other (Arv.other (Arv.other V539 W546 ne495) W552 ne496) W558 ne497).ext E561) Kp566 (ninS ne571 nin0))
    obtain ⟨cl573, Ar573, q573, S573, N573, H573, G573⟩ := id F572
    have hin573 : ¬ ((3 : Int32) < 0 ∨ cl573.slots.size ≤ ((3 : Int32)).toNatClampNeg) := inb_of S573 ⟨by decide, by decide⟩
    obtain ⟨T574, h574, X574, e574, W574, st574⟩ := stR X566 hx hZ rfl Ar573 (j := (3 : Int32)) hin573 rfl (Sto.ofV Ar573 q573 O411 (Ins.self F570)) (g := (mkF m 67 #[.val (.ref q1), .val (.int z1), .val (.int (8 : Int32)), .val (.int (3 : Int32))] [(.ref b561), (.int (3 : Int32)), (.ref b411)])) rfl rfl (hb hby d2_67)
    refine own_go st574 ?_
    have le_574 : T566.heap.size ≤ h574.size := Nat.le_of_eq W574.size.symm
    have K574 : Keep h0 h574 [q1] := Keep.wr K566 W574 (Or.inr sz444)
    have N574 := Fr.snoc X574 N566 ge443
    have V574 : Arv Z h574 b411 k411 (.object "com/example/holdback/holdback/sim/EventQueue$Stream") (8 : Int32) [(.ref b429), (.ref b485), (.ref b526), (.ref b561), .null, .null, .null, .null] .null := Arv.set Ar573 q573 S573 N573 H573 G573 rfl W574 3 rfl (Nat.le_of_ble_eq_true rfl)
    refine own_go (fun _ => XS.aloadN X574.here hx rfl (hb hby d2_68) rfl rfl) ?_
    have ne575 : q1 ≠ b561 := own_ne (by omega)
    have F576 := (Fld.other W574 (Fld.keep (Fld.ext E561 (Fld.other W558 (Fld.other W552 (Fld.other W546 F541 (Or.inl ne457)) (Or.inl ne469)) (Or.inl ne482))) Kp566 (ninS ne575 nin0)) (Or.inl ne446))
    obtain ⟨T577, X577, e577, st577⟩ := getF X574 hx hZ hown (host := "") (Or.inl w_30) Via.refl e574 F576 (g := (mkF m 69 #[.val (.ref q1), .val (.int z1), .val (.int (8 : Int32)), .val (.int (3 : Int32))] [(.ref q1)])) rfl rfl (hb hby d2_69)
    refine own_go st577 ?_
    refine own_go (fun _ => XS.iloadN X577.here hx rfl (hb hby d2_72) rfl) ?_
    refine own_go (fun _ => X577.ldc2DoubleC hx hown (mvT hZ w_53) (g := (mkF m 73 #[.val (.ref q1), .val (.int z1), .val (.int (8 : Int32)), .val (.int (3 : Int32))] [(.int (3 : Int32)), (.ref b415)])) rfl (hb hby d2_73) _) ?_
    have ne578 : b415 ≠ b561 := own_ne (by omega)
    have F579 := (Arv.other (Arv.keep ((Arv.other (Arv.other V546 W552 ne505) W558 ne506).ext E561) Kp566 (ninS ne578 nin0)) W574 ne451)
    obtain ⟨cl580, Ar580, q580, S580, N580, H580, G580⟩ := id F579
    have hin580 : ¬ ((3 : Int32) < 0 ∨ cl580.slots.size ≤ ((3 : Int32)).toNatClampNeg) := inb_of S580 ⟨by decide, by decide⟩
    obtain ⟨T581, h581, X581, e581, W581, st581⟩ := stD X577 hx hZ e577 Ar580 (j := (3 : Int32)) hin580 (g := (mkF m 76 #[.val (.ref q1), .val (.int z1), .val (.int (8 : Int32)), .val (.int (3 : Int32))] [(.double (9218868437227405312 : UInt64)), (.int (3 : Int32)), (.ref b415)])) rfl rfl (hb hby d2_76)
    refine own_go st581 ?_
    have le_581 : h574.size ≤ h581.size := Nat.le_of_eq W581.size.symm
    have K581 : Keep h0 h581 [q1] := Keep.wr K574 W581 (Or.inr sz456)
    have N581 := Fr.snoc X581 N574 ge455
    have V581 : Arv Z h581 b415 k415 .double (8 : Int32) [(.double (9218868437227405312 : UInt64)), (.double (9218868437227405312 : UInt64)), (.double (9218868437227405312 : UInt64)), (.double (9218868437227405312 : UInt64)), (.double (0 : UInt64)), (.double (0 : UInt64)), (.double (0 : UInt64)), (.double (0 : UInt64))] (.double (0 : UInt64)) := Arv.set Ar580 q580 S580 N580 H580 G580 rfl W581 3 rfl (Nat.le_of_ble_eq_true rfl)
    refine own_go (fun _ => XS.aloadN X581.here hx rfl (hb hby d2_77) rfl rfl) ?_
    show ∃ t o, Steps p.tables e below (T581.setTop (mkF m 78 #[.val (.ref q1), .val (.int z1), .val (.int (8 : Int32)), .val (.int (3 : Int32))] [(.ref q1)])) t ∧ _
    have F582 := (Fld.other W581 (Fld.other W574 (Fld.keep (Fld.ext E561 (Fld.other W558 (Fld.other W552 F547 (Or.inl ne469)) (Or.inl ne482))) Kp566 (ninS ne575 nin0)) (Or.inl ne446)) (Or.inl ne457))
    obtain ⟨T583, X583, e583, st583⟩ := getF X581 hx hZ hown (host := "") (Or.inl w_33) Via.refl e581 F582 (g := (mkF m 78 #[.val (.ref q1), .val (.int z1), .val (.int (8 : Int32)), .val (.int (3 : Int32))] [(.ref q1)])) rfl rfl (hb hby d2_78)
    refine own_go st583 ?_
    refine own_go (fun _ => XS.iloadN X583.here hx rfl (hb hby d2_81) rfl) ?_
    refine own_go (fun _ => X583.ldc2Long hx hown (mvT hZ w_54) (g := (mkF m 82 #[.val (.ref q1), .val (.int z1), .val (.int (8 : Int32)), .val (.int (3 : Int32))] [(.int (3 : Int32)), (.ref b419)])) rfl (hb hby d2_82) _) ?_
    have ne584 : b419 ≠ b561 := own_ne (by omega)
    have F585 := (Arv.other (Arv.other (Arv.keep ((Arv.other V552 W558 ne513).ext E561) Kp566 (ninS ne584 nin0)) W574 ne462) W581 ne463)
    obtain ⟨cl586, Ar586, q586, S586, N586, H586, G586⟩ := id F585
    have hin586 : ¬ ((3 : Int32) < 0 ∨ cl586.slots.size ≤ ((3 : Int32)).toNatClampNeg) := inb_of S586 ⟨by decide, by decide⟩
    obtain ⟨T587, h587, X587, e587, W587, st587⟩ := stJ X583 hx hZ e583 Ar586 (j := (3 : Int32)) hin586 (g := (mkF m 85 #[.val (.ref q1), .val (.int z1), .val (.int (8 : Int32)), .val (.int (3 : Int32))] [(.long (9223372036854775807 : Int64)), (.int (3 : Int32)), (.ref b419)])) rfl rfl (hb hby d2_85)
    refine own_go st587 ?_
    have le_587 : h581.size ≤ h587.size := Nat.le_of_eq W587.size.symm
    have K587 : Keep h0 h587 [q1] := Keep.wr K581 W587 (Or.inr sz468)
    have N587 := Fr.snoc X587 N581 ge467
    have V587 : Arv Z h587 b419 k419 .long (8 : Int32) [(.long (9223372036854775807 : Int64)), (.long (9223372036854775807 : Int64)), (.long (9223372036854775807 : Int64)), (.long (9223372036854775807 : Int64)), (.long (0 : Int64)), (.long (0 : Int64)), (.long (0 : Int64)), (.long (0 : Int64))] (.long (0 : Int64)) := Arv.set Ar586 q586 S586 N586 H586 G586 rfl W587 3 rfl (Nat.le_of_ble_eq_true rfl)
    refine own_go (fun _ => XS.aloadN X587.here hx rfl (hb hby d2_86) rfl rfl) ?_
    have F588 := (Fld.other W587 (Fld.other W581 (Fld.other W574 (Fld.keep (Fld.ext E561 (Fld.other W558 F553 (Or.inl ne482))) Kp566 (ninS ne575 nin0)) (Or.inl ne446)) (Or.inl ne457)) (Or.inl ne469))
    obtain ⟨T589, X589, e589, st589⟩ := getF X587 hx hZ hown (host := "") (Or.inl w_36) Via.refl e587 F588 (g := (mkF m 87 #[.val (.ref q1), .val (.int z1), .val (.int (8 : Int32)), .val (.int (3 : Int32))] [(.ref q1)])) rfl rfl (hb hby d2_87)
    refine own_go st589 ?_
    refine own_go (fun _ => XS.iloadN X589.here hx rfl (hb hby d2_90) rfl) ?_
    refine own_go (fun _ => XS.iloadN X589.here hx rfl (hb hby d2_91) rfl) ?_
    show ∃ t o, Steps p.tables e below (T589.setTop (mkF m 92 #[.val (.ref q1), .val (.int z1), .val (.int (8 : Int32)), .val (.int (3 : Int32))] [(.int (3 : Int32)), (.int (8 : Int32)), (.ref b423)])) t ∧ _
    refine own_go (fun _ => XS.iadd X589.here hx rfl (hb hby d2_92) rfl) ?_
    refine own_go (fun _ => XS.iloadN X589.here hx rfl (hb hby d2_93) rfl) ?_
    have ne590 : b423 ≠ b561 := own_ne (by omega)
    have F591 := (Arv.other (Arv.other (Arv.other (Arv.keep (V558.ext E561) Kp566 (ninS ne590 nin0)) W574 ne474) W581 ne475) W587 ne476)
    obtain ⟨cl592, Ar592, q592, S592, N592, H592, G592⟩ := id F591
    have hin592 : ¬ ((11 : Int32) < 0 ∨ cl592.slots.size ≤ ((11 : Int32)).toNatClampNeg) := inb_of S592 ⟨by decide, by decide⟩
    obtain ⟨T593, h593, X593, e593, W593, st593⟩ := stI X589 hx hZ e589 Ar592 (j := (11 : Int32)) hin592 (g := (mkF m 94 #[.val (.ref q1), .val (.int z1), .val (.int (8 : Int32)), .val (.int (3 : Int32))] [(.int (3 : Int32)), (.int (11 : Int32)), (.ref b423)])) rfl rfl (hb hby d2_94)
    refine own_go st593 ?_
    have le_593 : h587.size ≤ h593.size := Nat.le_of_eq W593.size.symm
    have K593 : Keep h0 h593 [q1] := Keep.wr K587 W593 (Or.inr sz481)
    have N593 := Fr.snoc X593 N587 ge480
    have V593 : Arv Z h593 b423 k423 .int (16 : Int32) [(.int (0 : Int32)), (.int (0 : Int32)), (.int (0 : Int32)), (.int (0 : Int32)), (.int (0 : Int32)), (.int (0 : Int32)), (.int (0 : Int32)), (.int (0 : Int32)), (.int (0 : Int32)), (.int (1 : Int32)), (.int (2 : Int32)), (.int (3 : Int32)), (.int (0 : Int32)), (.int (0 : Int32)), (.int (0 : Int32)), (.int (0 : Int32))] (.int (0 : Int32)) := Arv.set Ar592 q592 S592 N592 H592 G592 rfl W593 11 rfl (Nat.le_of_ble_eq_true rfl)
    refine own_go (fun _ => XS.iinc X593.here hx rfl (hb hby d2_95) rfl (l' := #[.val (.ref q1), .val (.int z1), .val (.int (8 : Int32)), .val (.int (4 : Int32))]) rfl) ?_
    refine own_go (fun _ => XS.goto X593.here hx rfl (pc0 := 98) (pc' := 50) rfl (hb hby d2_98) (by decide) (by decide)) ?_
    refine own_go (fun _ => XS.iloadN X593.here hx rfl (hb hby d2_50) rfl) ?_
    refine own_go (fun _ => XS.iloadN X593.here hx rfl (hb hby d2_51) rfl) ?_
    show ∃ t o, Steps p.tables e below (T593.setTop (mkF m 52 #[.val (.ref q1), .val (.int z1), .val (.int (8 : Int32)), .val (.int (4 : Int32))] [(.int (8 : Int32)), (.int (4 : Int32))])) t ∧ _
    refine own_go (fun _ => XS.icmpNo X593.here hx rfl (hb hby d2_52) rfl (tlt (by decide : (4 : Int32) < (8 : Int32))).2.1) ?_
    refine own_go (fun _ => XS.aloadN X593.here hx rfl (hb hby d2_55) rfl rfl) ?_
    have F594 := (Fld.other W593 (Fld.other W587 (Fld.other W581 (Fld.other W574 (Fld.keep (Fld.ext E561 F559) Kp566 (ninS ne575 nin0)) (Or.inl ne446)) (Or.inl ne457)) (Or.inl ne469)) (Or.inl ne482))
    obtain ⟨T595, X595, e595, st595⟩ := getF X593 hx hZ hown (host := "") (Or.inl w_27) Via.refl e593 F594 (g := (mkF m 56 #[.val (.ref q1), .val (.int z1), .val (.int (8 : Int32)), .val (.int (4 : Int32))] [(.ref q1)])) rfl rfl (hb hby d2_56)
    refine own_go st595 ?_
    refine own_go (fun _ => XS.iloadN X595.here hx rfl (hb hby d2_59) rfl) ?_
    show ∃ t o, Steps p.tables e below (T595.setTop (mkF m 60 #[.val (.ref q1), .val (.int z1), .val (.int (8 : Int32)), .val (.int (4 : Int32))] [(.int (4 : Int32)), (.ref b411)])) t ∧ _
    obtain ⟨T596, h596, X596, e596, E596, A596, D596, -, st596⟩ := newO X595 hx hZ hown w_25 w_38 w_39 e595 (g := (mkF m 60 #[.val (.ref q1), .val (.int z1), .val (.int (8 : Int32)), .val (.int (4 : Int32))] [(.int (4 : Int32)), (.ref b411)])) rfl (hb hby d2_60) (by decide) (by decide)
    obtain ⟨b596, g596⟩ : ∃ z, z = h593.size := ⟨_, rfl⟩
    rw [← g596] at A596 D596 st596
    refine own_go st596 ?_
    have le_596 : h593.size ≤ h596.size := E596.1
    have lt_b596 : b596 < h596.size := A596.lt
    have F_moments_b596 : Fld Z h596 b596 "com/example/holdback/holdback/sim/EventQueue$Stream" "moments" "[D" .null := D596 (Or.inl w_45) (ty := (.array .double)) (by decide)
    have F_places_b596 : Fld Z h596 b596 "com/example/holdback/holdback/sim/EventQueue$Stream" "places" "[J" .null := D596 (Or.inl w_47) (ty := (.array .long)) (by decide)
    have F_actions_b596 : Fld Z h596 b596 "com/example/holdback/holdback/sim/EventQueue$Stream" "actions" "[Ljava/lang/Runnable;" .null := D596 (Or.inl w_51) (ty := (.array (.object "java/lang/Runnable"))) (by decide)
    have F_lastAt_b596 : Fld Z h596 b596 "com/example/holdback/holdback/sim/EventQueue$Stream" "lastAt" "D" (defaultValue .double) := D596 (Or.inl w_85) (ty := .double) (by decide)
    have F_size_b596 : Fld Z h596 b596 "com/example/holdback/holdback/sim/EventQueue$Stream" "size" "I" (.int (0 : Int32)) := D596 (Or.inl w_94) (ty := .int) (by decide)
    have F_first_b596 : Fld Z h596 b596 "com/example/holdback/holdback/sim/EventQueue$Stream" "first" "I" (.int (0 : Int32)) := D596 (Or.inl w_96) (ty := .int) (by decide)
    have K596 : Keep h0 h596 [q1] := Keep.ext K593 E596
    have lt597 : (ac_566 : Nat) < b596 := by omega
    refine own_go (fun _ => XS.dup X596.here hx rfl (hb hby d2_63) rfl rfl) ?_
    show ∃ t o, Steps p.tables e below (T596.setTop (mkF m 64 #[.val (.ref q1), .val (.int z1), .val (.int (8 : Int32)), .val (.int (4 : Int32))] [(.ref b596), (.ref b596), (.int (4 : Int32)), (.ref b411)])) t ∧ _
    have F598 := ((Old.wr (Old.wr (Old.wr (Old.wr (Old.keep F563 Kp566 (allS ge564 all0)) W574 ge443) W581 ge455) W587 ge467) W593 ge480).ext E596)
    have ge599 : n0 ≤ b596 := by omega
    have zl600 : n0 ≤ h596.size := by omega
    obtain ⟨_, _, ⟨T601, L601, k601, n601⟩, -, X601, ⟨Lc601, hQ601, l601, y601, z601⟩, st601⟩ := own_specR X596 hx hZ (y := (⟨"com/example/holdback/holdback/sim/EventQueue$Stream", "<init>", "()V"⟩ : MethodName)) rfl hown w_40 w_41 w_42 (by decide) (backOf (W := 3) (rmSI l Z a0 hw [] b596 h596 n0 zl600 A596 F_moments_b596 F_places_b596 F_actions_b596 F_first_b596 F_size_b596 F_lastAt_b596 F598 ge599) hZ w_42 w_39 (by decide) (by decide)) (g := (mkF m 64 #[.val (.ref q1), .val (.int z1), .val (.int (8 : Int32)), .val (.int (4 : Int32))] [(.ref b596), (.ref b596), (.int (4 : Int32)), (.ref b411)])) rfl (by rw [hml]; rfl) (Steps.refl _) (a := b596) (argsL := []) (rest := [(.ref b596), (.int (4 : Int32)), (.ref b411)]) (lenOf pd__28_29V rfl) rfl (by show 2 * 0 + _ ≤ _; exact Nat.le_of_eq rfl) (hb hby d2_64) (fun _ _ => ⟨rfl, e596, (by decide : 21 + 3 ≤ _), (by decide : 166 + 24 ≤ _)⟩)
    dsimp only [Pt.U, Pt.locs, Pt.cells, Pt.slots] at X601 l601 y601 z601 st601 hQ601
    rw [l601, y601, z601] at X601
    obtain ⟨am_601, ap_601, ac_601, km_601, kp_601, kc_601, rfl, Nq601, Kp601, G601_0, G601_1, G601_2, G601_3, G601_4, G601_5, G601_6, G601_7, G601_8, H601_0, H601_1, H601_2⟩ := hQ601
    have N601 := Fr.app N593 Nq601
    refine own_goT st601 ?_
    have le_601 : h596.size ≤ T601.heap.size := Kp601.1
    have sz602 : h0.size ≤ b596 := by omega
    have K601 : Keep h0 T601.heap [q1] := Keep.trans K596 Kp601 (allS (Or.inr sz602) all0)
    have lt_am_601 : am_601 < T601.heap.size := (G601_6).lt
    have lt_ap_601 : ap_601 < T601.heap.size := (G601_7).lt
    have lt_ac_601 : ac_601 < T601.heap.size := (G601_8).lt
    have lt603 : (b596 : Nat) < am_601 := by omega
    have F605 := (Exa.keep A596 Kp601)
    have cs604 : own_S Z T601.heap b596 (ac_601 + 1) 0 0 := ⟨am_601, ap_601, ac_601, _, _, _, _, _, _, (0 : Int32), (0 : Int32), (0 : Int32), lt603, H601_1, H601_2, Nat.lt_succ_self _, F605, G601_0, G601_1, G601_2, G601_3, G601_4, own_la G601_5, G601_6, G601_7, G601_8, own_gm, own_gp, own_gc, ⟨by decide, by decide⟩, ⟨by decide, by decide⟩, by decide⟩
    have ne606 : b411 ≠ b596 := own_ne (by omega)
    have F607 := (Arv.keep ((Arv.other (Arv.other (Arv.other V574 W581 ne495) W587 ne496) W593 ne497).ext E596) Kp601 (ninS ne606 nin0))
    obtain ⟨cl608, Ar608, q608, S608, N608, H608, G608⟩ := id F607
    have hin608 : ¬ ((4 : Int32) < 0 ∨ cl608.slots.size ≤ ((4 : Int32)).toNatClampNeg) := inb_of S608 ⟨by decide, by decide⟩
    obtain ⟨T609, h609, X609, e609, W609, st609⟩ := stR X601 hx hZ rfl Ar608 (j := (4 : Int32)) hin608 rfl (Sto.ofV Ar608 q608 O411 (Ins.self F605)) (g := (mkF m 67 #[.val (.ref q1), .val (.int z1), .val (.int (8 : Int32)), .val (.int (4 : Int32))] [(.ref b596), (.int (4 : Int32)), (.ref b411)])) rfl rfl (hb hby d2_67)
    refine own_go st609 ?_
    have le_609 : T601.heap.size ≤ h609.size := Nat.le_of_eq W609.size.symm
    have K609 : Keep h0 h609 [q1] := Keep.wr K601 W609 (Or.inr sz444)
    have N609 := Fr.snoc X609 N601 ge443
    have V609 : Arv Z h609 b411 k411 (.object "com/example/holdback/holdback/sim/EventQueue$Stream") (8 : Int32) [(.ref b429), (.ref b485), (.ref b526), (.ref b561), (.ref b596), .null, .null, .null] .null := Arv.set Ar608 q608 S608 N608 H608 G608 rfl W609 4 rfl (Nat.le_of_ble_eq_true rfl)
    refine own_go (fun _ => XS.aloadN X609.here hx rfl (hb hby d2_68) rfl rfl) ?_
    have ne610 : q1 ≠ b596 := own_ne (by omega)
    have F611 := (Fld.other W609 (Fld.keep (Fld.ext E596 (Fld.other W593 (Fld.other W587 (Fld.other W581 F576 (Or.inl ne457)) (Or.inl ne469)) (Or.inl ne482))) Kp601 (ninS ne610 nin0)) (Or.inl ne446))
    obtain ⟨T612, X612, e612, st612⟩ := getF X609 hx hZ hown (host := "") (Or.inl w_30) Via.refl e609 F611 (g := (mkF m 69 #[.val (.ref q1), .val (.int z1), .val (.int (8 : Int32)), .val (.int (4 : Int32))] [(.ref q1)])) rfl rfl (hb hby d2_69)
    refine own_go st612 ?_
    refine own_go (fun _ => XS.iloadN X612.here hx rfl (hb hby d2_72) rfl) ?_
    refine own_go (fun _ => X612.ldc2DoubleC hx hown (mvT hZ w_53) (g := (mkF m 73 #[.val (.ref q1), .val (.int z1), .val (.int (8 : Int32)), .val (.int (4 : Int32))] [(.int (4 : Int32)), (.ref b415)])) rfl (hb hby d2_73) _) ?_
    have ne613 : b415 ≠ b596 := own_ne (by omega)
    have F614 := (Arv.other (Arv.keep ((Arv.other (Arv.other V581 W587 ne505) W593 ne506).ext E596) Kp601 (ninS ne613 nin0)) W609 ne451)
    obtain ⟨cl615, Ar615, q615, S615, N615, H615, G615⟩ := id F614
    have hin615 : ¬ ((4 : Int32) < 0 ∨ cl615.slots.size ≤ ((4 : Int32)).toNatClampNeg) := inb_of S615 ⟨by decide, by decide⟩
    obtain ⟨T616, h616, X616, e616, W616, st616⟩ := stD X612 hx hZ e612 Ar615 (j := (4 : Int32)) hin615 (g := (mkF m 76 #[.val (.ref q1), .val (.int z1), .val (.int (8 : Int32)), .val (.int (4 : Int32))] [(.double (9218868437227405312 : UInt64)), (.int (4 : Int32)), (.ref b415)])) rfl rfl (hb hby d2_76)
    refine own_go st616 ?_
    have le_616 : h609.size ≤ h616.size := Nat.le_of_eq W616.size.symm
    have K616 : Keep h0 h616 [q1] := Keep.wr K609 W616 (Or.inr sz456)
    have N616 := Fr.snoc X616 N609 ge455
    have V616 : Arv Z h616 b415 k415 .double (8 : Int32) [(.double (9218868437227405312 : UInt64)), (.double (9218868437227405312 : UInt64)), (.double (9218868437227405312 : UInt64)), (.double (9218868437227405312 : UInt64)), (.double (9218868437227405312 : UInt64)), (.double (0 : UInt64)), (.double (0 : UInt64)), (.double (0 : UInt64))] (.double (0 : UInt64)) := Arv.set Ar615 q615 S615 N615 H615 G615 rfl W616 4 rfl (Nat.le_of_ble_eq_true rfl)
    refine own_go (fun _ => XS.aloadN X616.here hx rfl (hb hby d2_77) rfl rfl) ?_
    show ∃ t o, Steps p.tables e below (T616.setTop (mkF m 78 #[.val (.ref q1), .val (.int z1), .val (.int (8 : Int32)), .val (.int (4 : Int32))] [(.ref q1)])) t ∧ _
    have F617 := (Fld.other W616 (Fld.other W609 (Fld.keep (Fld.ext E596 (Fld.other W593 (Fld.other W587 F582 (Or.inl ne469)) (Or.inl ne482))) Kp601 (ninS ne610 nin0)) (Or.inl ne446)) (Or.inl ne457))
    obtain ⟨T618, X618, e618, st618⟩ := getF X616 hx hZ hown (host := "") (Or.inl w_33) Via.refl e616 F617 (g := (mkF m 78 #[.val (.ref q1), .val (.int z1), .val (.int (8 : Int32)), .val (.int (4 : Int32))] [(.ref q1)])) rfl rfl (hb hby d2_78)
    refine own_go st618 ?_
    refine own_go (fun _ => XS.iloadN X618.here hx rfl (hb hby d2_81) rfl) ?_
    refine own_go (fun _ => X618.ldc2Long hx hown (mvT hZ w_54) (g := (mkF m 82 #[.val (.ref q1), .val (.int z1), .val (.int (8 : Int32)), .val (.int (4 : Int32))] [(.int (4 : Int32)), (.ref b419)])) rfl (hb hby d2_82) _) ?_
    have ne619 : b419 ≠ b596 := own_ne (by omega)
    have F620 := (Arv.other (Arv.other (Arv.keep ((Arv.other V587 W593 ne513).ext E596) Kp601 (ninS ne619 nin0)) W609 ne462) W616 ne463)
    obtain ⟨cl621, Ar621, q621, S621, N621, H621, G621⟩ := id F620
    have hin621 : ¬ ((4 : Int32) < 0 ∨ cl621.slots.size ≤ ((4 : Int32)).toNatClampNeg) := inb_of S621 ⟨by decide, by decide⟩
    obtain ⟨T622, h622, X622, e622, W622, st622⟩ := stJ X618 hx hZ e618 Ar621 (j := (4 : Int32)) hin621 (g := (mkF m 85 #[.val (.ref q1), .val (.int z1), .val (.int (8 : Int32)), .val (.int (4 : Int32))] [(.long (9223372036854775807 : Int64)), (.int (4 : Int32)), (.ref b419)])) rfl rfl (hb hby d2_85)
    refine own_go st622 ?_
    have le_622 : h616.size ≤ h622.size := Nat.le_of_eq W622.size.symm
    have K622 : Keep h0 h622 [q1] := Keep.wr K616 W622 (Or.inr sz468)
    have N622 := Fr.snoc X622 N616 ge467
    have V622 : Arv Z h622 b419 k419 .long (8 : Int32) [(.long (9223372036854775807 : Int64)), (.long (9223372036854775807 : Int64)), (.long (9223372036854775807 : Int64)), (.long (9223372036854775807 : Int64)), (.long (9223372036854775807 : Int64)), (.long (0 : Int64)), (.long (0 : Int64)), (.long (0 : Int64))] (.long (0 : Int64)) := Arv.set Ar621 q621 S621 N621 H621 G621 rfl W622 4 rfl (Nat.le_of_ble_eq_true rfl)
    refine own_go (fun _ => XS.aloadN X622.here hx rfl (hb hby d2_86) rfl rfl) ?_
    have F623 := (Fld.other W622 (Fld.other W616 (Fld.other W609 (Fld.keep (Fld.ext E596 (Fld.other W593 F588 (Or.inl ne482))) Kp601 (ninS ne610 nin0)) (Or.inl ne446)) (Or.inl ne457)) (Or.inl ne469))
    obtain ⟨T624, X624, e624, st624⟩ := getF X622 hx hZ hown (host := "") (Or.inl w_36) Via.refl e622 F623 (g := (mkF m 87 #[.val (.ref q1), .val (.int z1), .val (.int (8 : Int32)), .val (.int (4 : Int32))] [(.ref q1)])) rfl rfl (hb hby d2_87)
    refine own_go st624 ?_
    refine own_go (fun _ => XS.iloadN X624.here hx rfl (hb hby d2_90) rfl) ?_
    refine own_go (fun _ => XS.iloadN X624.here hx rfl (hb hby d2_91) rfl) ?_
    show ∃ t o, Steps p.tables e below (T624.setTop (mkF m 92 #[.val (.ref q1), .val (.int z1), .val (.int (8 : Int32)), .val (.int (4 : Int32))] [(.int (4 : Int32)), (.int (8 : Int32)), (.ref b423)])) t ∧ _
    refine own_go (fun _ => XS.iadd X624.here hx rfl (hb hby d2_92) rfl) ?_
    refine own_go (fun _ => XS.iloadN X624.here hx rfl (hb hby d2_93) rfl) ?_
    have ne625 : b423 ≠ b596 := own_ne (by omega)
    have F626 := (Arv.other (Arv.other (Arv.other (Arv.keep (V593.ext E596) Kp601 (ninS ne625 nin0)) W609 ne474) W616 ne475) W622 ne476)
    obtain ⟨cl627, Ar627, q627, S627, N627, H627, G627⟩ := id F626
    have hin627 : ¬ ((12 : Int32) < 0 ∨ cl627.slots.size ≤ ((12 : Int32)).toNatClampNeg) := inb_of S627 ⟨by decide, by decide⟩
    obtain ⟨T628, h628, X628, e628, W628, st628⟩ := stI X624 hx hZ e624 Ar627 (j := (12 : Int32)) hin627 (g := (mkF m 94 #[.val (.ref q1), .val (.int z1), .val (.int (8 : Int32)), .val (.int (4 : Int32))] [(.int (4 : Int32)), (.int (12 : Int32)), (.ref b423)])) rfl rfl (hb hby d2_94)
    refine own_go st628 ?_
    have le_628 : h622.size ≤ h628.size := Nat.le_of_eq W628.size.symm
    have K628 : Keep h0 h628 [q1] := Keep.wr K622 W628 (Or.inr sz481)
    have N628 := Fr.snoc X628 N622 ge480
    have V628 : Arv Z h628 b423 k423 .int (16 : Int32) [(.int (0 : Int32)), (.int (0 : Int32)), (.int (0 : Int32)), (.int (0 : Int32)), (.int (0 : Int32)), (.int (0 : Int32)), (.int (0 : Int32)), (.int (0 : Int32)), (.int (0 : Int32)), (.int (1 : Int32)), (.int (2 : Int32)), (.int (3 : Int32)), (.int (4 : Int32)), (.int (0 : Int32)), (.int (0 : Int32)), (.int (0 : Int32))] (.int (0 : Int32)) := Arv.set Ar627 q627 S627 N627 H627 G627 rfl W628 12 rfl (Nat.le_of_ble_eq_true rfl)
    refine own_go (fun _ => XS.iinc X628.here hx rfl (hb hby d2_95) rfl (l' := #[.val (.ref q1), .val (.int z1), .val (.int (8 : Int32)), .val (.int (5 : Int32))]) rfl) ?_
    refine own_go (fun _ => XS.goto X628.here hx rfl (pc0 := 98) (pc' := 50) rfl (hb hby d2_98) (by decide) (by decide)) ?_
    refine own_go (fun _ => XS.iloadN X628.here hx rfl (hb hby d2_50) rfl) ?_
    refine own_go (fun _ => XS.iloadN X628.here hx rfl (hb hby d2_51) rfl) ?_
    show ∃ t o, Steps p.tables e below (T628.setTop (mkF m 52 #[.val (.ref q1), .val (.int z1), .val (.int (8 : Int32)), .val (.int (5 : Int32))] [(.int (8 : Int32)), (.int (5 : Int32))])) t ∧ _
    refine own_go (fun _ => XS.icmpNo X628.here hx rfl (hb hby d2_52) rfl (tlt (by decide : (5 : Int32) < (8 : Int32))).2.1) ?_
    refine own_go (fun _ => XS.aloadN X628.here hx rfl (hb hby d2_55) rfl rfl) ?_
    have F629 := (Fld.other W628 (Fld.other W622 (Fld.other W616 (Fld.other W609 (Fld.keep (Fld.ext E596 F594) Kp601 (ninS ne610 nin0)) (Or.inl ne446)) (Or.inl ne457)) (Or.inl ne469)) (Or.inl ne482))
    obtain ⟨T630, X630, e630, st630⟩ := getF X628 hx hZ hown (host := "") (Or.inl w_27) Via.refl e628 F629 (g := (mkF m 56 #[.val (.ref q1), .val (.int z1), .val (.int (8 : Int32)), .val (.int (5 : Int32))] [(.ref q1)])) rfl rfl (hb hby d2_56)
    refine own_go st630 ?_
    refine own_go (fun _ => XS.iloadN X630.here hx rfl (hb hby d2_59) rfl) ?_
    show ∃ t o, Steps p.tables e below (T630.setTop (mkF m 60 #[.val (.ref q1), .val (.int z1), .val (.int (8 : Int32)), .val (.int (5 : Int32))] [(.int (5 : Int32)), (.ref b411)])) t ∧ _
    obtain ⟨T631, h631, X631, e631, E631, A631, D631, -, st631⟩ := newO X630 hx hZ hown w_25 w_38 w_39 e630 (g := (mkF m 60 #[.val (.ref q1), .val (.int z1), .val (.int (8 : Int32)), .val (.int (5 : Int32))] [(.int (5 : Int32)), (.ref b411)])) rfl (hb hby d2_60) (by decide) (by decide)
    obtain ⟨b631, g631⟩ : ∃ z, z = h628.size := ⟨_, rfl⟩
    rw [← g631] at A631 D631 st631
    refine own_go st631 ?_
    have le_631 : h628.size ≤ h631.size := E631.1
    have lt_b631 : b631 < h631.size := A631.lt
    have F_moments_b631 : Fld Z h631 b631 "com/example/holdback/holdback/sim/EventQueue$Stream" "moments" "[D" .null := D631 (Or.inl w_45) (ty := (.array .double)) (by decide)
    have F_places_b631 : Fld Z h631 b631 "com/example/holdback/holdback/sim/EventQueue$Stream" "places" "[J" .null := D631 (Or.inl w_47) (ty := (.array .long)) (by decide)
    have F_actions_b631 : Fld Z h631 b631 "com/example/holdback/holdback/sim/EventQueue$Stream" "actions" "[Ljava/lang/Runnable;" .null := D631 (Or.inl w_51) (ty := (.array (.object "java/lang/Runnable"))) (by decide)
    have F_lastAt_b631 : Fld Z h631 b631 "com/example/holdback/holdback/sim/EventQueue$Stream" "lastAt" "D" (defaultValue .double) := D631 (Or.inl w_85) (ty := .double) (by decide)
    have F_size_b631 : Fld Z h631 b631 "com/example/holdback/holdback/sim/EventQueue$Stream" "size" "I" (.int (0 : Int32)) := D631 (Or.inl w_94) (ty := .int) (by decide)
    have F_first_b631 : Fld Z h631 b631 "com/example/holdback/holdback/sim/EventQueue$Stream" "first" "I" (.int (0 : Int32)) := D631 (Or.inl w_96) (ty := .int) (by decide)
    have K631 : Keep h0 h631 [q1] := Keep.ext K628 E631
    have lt632 : (ac_601 : Nat) < b631 := by omega
    refine own_go (fun _ => XS.dup X631.here hx rfl (hb hby d2_63) rfl rfl) ?_
    show ∃ t o, Steps p.tables e below (T631.setTop (mkF m 64 #[.val (.ref q1), .val (.int z1), .val (.int (8 : Int32)), .val (.int (5 : Int32))] [(.ref b631), (.ref b631), (.int (5 : Int32)), (.ref b411)])) t ∧ _
    have F633 := ((Old.wr (Old.wr (Old.wr (Old.wr (Old.keep F598 Kp601 (allS ge599 all0)) W609 ge443) W616 ge455) W622 ge467) W628 ge480).ext E631)
    have ge634 : n0 ≤ b631 := by omega
    have zl635 : n0 ≤ h631.size := by omega
    obtain ⟨_, _, ⟨T636, L636, k636, n636⟩, -, X636, ⟨Lc636, hQ636, l636, y636, z636⟩, st636⟩ := own_specR X631 hx hZ (y := (⟨"com/example/holdback/holdback/sim/EventQueue$Stream", "<init>", "()V"⟩ : MethodName)) rfl hown w_40 w_41 w_42 (by decide) (backOf (W := 3) (rmSI l Z a0 hw [] b631 h631 n0 zl635 A631 F_moments_b631 F_places_b631 F_actions_b631 F_first_b631 F_size_b631 F_lastAt_b631 F633 ge634) hZ w_42 w_39 (by decide) (by decide)) (g := (mkF m 64 #[.val (.ref q1), .val (.int z1), .val (.int (8 : Int32)), .val (.int (5 : Int32))] [(.ref b631), (.ref b631), (.int (5 : Int32)), (.ref b411)])) rfl (by rw [hml]; rfl) (Steps.refl _) (a := b631) (argsL := []) (rest := [(.ref b631), (.int (5 : Int32)), (.ref b411)]) (lenOf pd__28_29V rfl) rfl (by show 2 * 0 + _ ≤ _; exact Nat.le_of_eq rfl) (hb hby d2_64) (fun _ _ => ⟨rfl, e631, (by decide : 25 + 3 ≤ _), (by decide : 196 + 24 ≤ _)⟩)
    dsimp only [Pt.U, Pt.locs, Pt.cells, Pt.slots] at X636 l636 y636 z636 st636 hQ636
    rw [l636, y636, z636] at X636
    obtain ⟨am_636, ap_636, ac_636, km_636, kp_636, kc_636, rfl, Nq636, Kp636, G636_0, G636_1, G636_2, G636_3, G636_4, G636_5, G636_6, G636_7, G636_8, H636_0, H636_1, H636_2⟩ := hQ636
    have N636 := Fr.app N628 Nq636
    refine own_goT st636 ?_
    have le_636 : h631.size ≤ T636.heap.size := Kp636.1
    have sz637 : h0.size ≤ b631 := by omega
    have K636 : Keep h0 T636.heap [q1] := Keep.trans K631 Kp636 (allS (Or.inr sz637) all0)
    have lt_am_636 : am_636 < T636.heap.size := (G636_6).lt
    have lt_ap_636 : ap_636 < T636.heap.size := (G636_7).lt
    have lt_ac_636 : ac_636 < T636.heap.size := (G636_8).lt
    have lt638 : (b631 : Nat) < am_636 := by omega
    have F640 := (Exa.keep A631 Kp636)
    have cs639 : own_S Z T636.heap b631 (ac_636 + 1) 0 0 := ⟨am_636, ap_636, ac_636, _, _, _, _, _, _, (0 : Int32), (0 : Int32), (0 : Int32), lt638, H636_1, H636_2, Nat.lt_succ_self _, F640, G636_0, G636_1, G636_2, G636_3, G636_4, own_la G636_5, G636_6, G636_7, G636_8, own_gm, own_gp, own_gc, ⟨by decide, by decide⟩, ⟨by decide, by decide⟩, by decide⟩
    have ne641 : b411 ≠ b631 := own_ne (by omega)
    have F642 := (Arv.keep ((Arv.other (Arv.other (Arv.other V609 W616 ne495) W622 ne496) W628 ne497).ext E631) Kp636 (ninS ne641 nin0))
    obtain ⟨cl643, Ar643, q643, S643, N643, H643, G643⟩ := id F642
    have hin643 : ¬ ((5 : Int32) < 0 ∨ cl643.slots.size ≤ ((5 : Int32)).toNatClampNeg) := inb_of S643 ⟨by decide, by decide⟩
    obtain ⟨T644, h644, X644, e644, W644, st644⟩ := stR X636 hx hZ rfl Ar643 (j := (5 : Int32)) hin643 rfl (Sto.ofV Ar643 q643 O411 (Ins.self F640)) (g := (mkF m 67 #[.val (.ref q1), .val (.int z1), .val (.int (8 : Int32)), .val (.int (5 : Int32))] [(.ref b631), (.int (5 : Int32)), (.ref b411)])) rfl rfl (hb hby d2_67)
    refine own_go st644 ?_
    have le_644 : T636.heap.size ≤ h644.size := Nat.le_of_eq W644.size.symm
    have K644 : Keep h0 h644 [q1] := Keep.wr K636 W644 (Or.inr sz444)
    have N644 := Fr.snoc X644 N636 ge443
    have V644 : Arv Z h644 b411 k411 (.object "com/example/holdback/holdback/sim/EventQueue$Stream") (8 : Int32) [(.ref b429), (.ref b485), (.ref b526), (.ref b561), (.ref b596), (.ref b631), .null, .null] .null := Arv.set Ar643 q643 S643 N643 H643 G643 rfl W644 5 rfl (Nat.le_of_ble_eq_true rfl)
    refine own_go (fun _ => XS.aloadN X644.here hx rfl (hb hby d2_68) rfl rfl) ?_
    have ne645 : q1 ≠ b631 := own_ne (by omega)
    have F646 := (Fld.other W644 (Fld.keep (Fld.ext E631 (Fld.other W628 (Fld.other W622 (Fld.other W616 F611 (Or.inl ne457)) (Or.inl ne469)) (Or.inl ne482))) Kp636 (ninS ne645 nin0)) (Or.inl ne446))
    obtain ⟨T647, X647, e647, st647⟩ := getF X644 hx hZ hown (host := "") (Or.inl w_30) Via.refl e644 F646 (g := (mkF m 69 #[.val (.ref q1), .val (.int z1), .val (.int (8 : Int32)), .val (.int (5 : Int32))] [(.ref q1)])) rfl rfl (hb hby d2_69)
    refine own_go st647 ?_
    refine own_go (fun _ => XS.iloadN X647.here hx rfl (hb hby d2_72) rfl) ?_
    refine own_go (fun _ => X647.ldc2DoubleC hx hown (mvT hZ w_53) (g := (mkF m 73 #[.val (.ref q1), .val (.int z1), .val (.int (8 : Int32)), .val (.int (5 : Int32))] [(.int (5 : Int32)), (.ref b415)])) rfl (hb hby d2_73) _) ?_
    have ne648 : b415 ≠ b631 := own_ne (by omega)
    have F649 := (Arv.other (Arv.keep ((Arv.other (Arv.other V616 W622 ne505) W628 ne506).ext E631) Kp636 (ninS ne648 nin0)) W644 ne451)
    obtain ⟨cl650, Ar650, q650, S650, N650, H650, G650⟩ := id F649
    have hin650 : ¬ ((5 : Int32) < 0 ∨ cl650.slots.size ≤ ((5 : Int32)).toNatClampNeg) := inb_of S650 ⟨by decide, by decide⟩
    obtain ⟨T651, h651, X651, e651, W651, st651⟩ := stD X647 hx hZ e647 Ar650 (j := (5 : Int32)) hin650 (g := (mkF m 76 #[.val (.ref q1), .val (.int z1), .val (.int (8 : Int32)), .val (.int (5 : Int32))] [(.double (9218868437227405312 : UInt64)), (.int (5 : Int32)), (.ref b415)])) rfl rfl (hb hby d2_76)
    refine own_go st651 ?_
    have le_651 : h644.size ≤ h651.size := Nat.le_of_eq W651.size.symm
    have K651 : Keep h0 h651 [q1] := Keep.wr K644 W651 (Or.inr sz456)
    have N651 := Fr.snoc X651 N644 ge455
    have V651 : Arv Z h651 b415 k415 .double (8 : Int32) [(.double (9218868437227405312 : UInt64)), (.double (9218868437227405312 : UInt64)), (.double (9218868437227405312 : UInt64)), (.double (9218868437227405312 : UInt64)), (.double (9218868437227405312 : UInt64)), (.double (9218868437227405312 : UInt64)), (.double (0 : UInt64)), (.double (0 : UInt64))] (.double (0 : UInt64)) := Arv.set Ar650 q650 S650 N650 H650 G650 rfl W651 5 rfl (Nat.le_of_ble_eq_true rfl)
    refine own_go (fun _ => XS.aloadN X651.here hx rfl (hb hby d2_77) rfl rfl) ?_
    show ∃ t o, Steps p.tables e below (T651.setTop (mkF m 78 #[.val (.ref q1), .val (.int z1), .val (.int (8 : Int32)), .val (.int (5 : Int32))] [(.ref q1)])) t ∧ _
    have F652 := (Fld.other W651 (Fld.other W644 (Fld.keep (Fld.ext E631 (Fld.other W628 (Fld.other W622 F617 (Or.inl ne469)) (Or.inl ne482))) Kp636 (ninS ne645 nin0)) (Or.inl ne446)) (Or.inl ne457))
    obtain ⟨T653, X653, e653, st653⟩ := getF X651 hx hZ hown (host := "") (Or.inl w_33) Via.refl e651 F652 (g := (mkF m 78 #[.val (.ref q1), .val (.int z1), .val (.int (8 : Int32)), .val (.int (5 : Int32))] [(.ref q1)])) rfl rfl (hb hby d2_78)
    refine own_go st653 ?_
    refine own_go (fun _ => XS.iloadN X653.here hx rfl (hb hby d2_81) rfl) ?_
    refine own_go (fun _ => X653.ldc2Long hx hown (mvT hZ w_54) (g := (mkF m 82 #[.val (.ref q1), .val (.int z1), .val (.int (8 : Int32)), .val (.int (5 : Int32))] [(.int (5 : Int32)), (.ref b419)])) rfl (hb hby d2_82) _) ?_
    have ne654 : b419 ≠ b631 := own_ne (by omega)
    have F655 := (Arv.other (Arv.other (Arv.keep ((Arv.other V622 W628 ne513).ext E631) Kp636 (ninS ne654 nin0)) W644 ne462) W651 ne463)
    obtain ⟨cl656, Ar656, q656, S656, N656, H656, G656⟩ := id F655
    have hin656 : ¬ ((5 : Int32) < 0 ∨ cl656.slots.size ≤ ((5 : Int32)).toNatClampNeg) := inb_of S656 ⟨by decide, by decide⟩
    obtain ⟨T657, h657, X657, e657, W657, st657⟩ := stJ X653 hx hZ e653 Ar656 (j := (5 : Int32)) hin656 (g := (mkF m 85 #[.val (.ref q1), .val (.int z1), .val (.int (8 : Int32)), .val (.int (5 : Int32))] [(.long (9223372036854775807 : Int64)), (.int (5 : Int32)), (.ref b419)])) rfl rfl (hb hby d2_85)
    refine own_go st657 ?_
    have le_657 : h651.size ≤ h657.size := Nat.le_of_eq W657.size.symm
    have K657 : Keep h0 h657 [q1] := Keep.wr K651 W657 (Or.inr sz468)
    have N657 := Fr.snoc X657 N651 ge467
    have V657 : Arv Z h657 b419 k419 .long (8 : Int32) [(.long (9223372036854775807 : Int64)), (.long (9223372036854775807 : Int64)), (.long (9223372036854775807 : Int64)), (.long (9223372036854775807 : Int64)), (.long (9223372036854775807 : Int64)), (.long (9223372036854775807 : Int64)), (.long (0 : Int64)), (.long (0 : Int64))] (.long (0 : Int64)) := Arv.set Ar656 q656 S656 N656 H656 G656 rfl W657 5 rfl (Nat.le_of_ble_eq_true rfl)
    refine own_go (fun _ => XS.aloadN X657.here hx rfl (hb hby d2_86) rfl rfl) ?_
    have F658 := (Fld.other W657 (Fld.other W651 (Fld.other W644 (Fld.keep (Fld.ext E631 (Fld.other W628 F623 (Or.inl ne482))) Kp636 (ninS ne645 nin0)) (Or.inl ne446)) (Or.inl ne457)) (Or.inl ne469))
    obtain ⟨T659, X659, e659, st659⟩ := getF X657 hx hZ hown (host := "") (Or.inl w_36) Via.refl e657 F658 (g := (mkF m 87 #[.val (.ref q1), .val (.int z1), .val (.int (8 : Int32)), .val (.int (5 : Int32))] [(.ref q1)])) rfl rfl (hb hby d2_87)
    refine own_go st659 ?_
    refine own_go (fun _ => XS.iloadN X659.here hx rfl (hb hby d2_90) rfl) ?_
    refine own_go (fun _ => XS.iloadN X659.here hx rfl (hb hby d2_91) rfl) ?_
    show ∃ t o, Steps p.tables e below (T659.setTop (mkF m 92 #[.val (.ref q1), .val (.int z1), .val (.int (8 : Int32)), .val (.int (5 : Int32))] [(.int (5 : Int32)), (.int (8 : Int32)), (.ref b423)])) t ∧ _
    refine own_go (fun _ => XS.iadd X659.here hx rfl (hb hby d2_92) rfl) ?_
    refine own_go (fun _ => XS.iloadN X659.here hx rfl (hb hby d2_93) rfl) ?_
    have ne660 : b423 ≠ b631 := own_ne (by omega)
    have F661 := (Arv.other (Arv.other (Arv.other (Arv.keep (V628.ext E631) Kp636 (ninS ne660 nin0)) W644 ne474) W651 ne475) W657 ne476)
    obtain ⟨cl662, Ar662, q662, S662, N662, H662, G662⟩ := id F661
    have hin662 : ¬ ((13 : Int32) < 0 ∨ cl662.slots.size ≤ ((13 : Int32)).toNatClampNeg) := inb_of S662 ⟨by decide, by decide⟩
    obtain ⟨T663, h663, X663, e663, W663, st663⟩ := stI X659 hx hZ e659 Ar662 (j := (13 : Int32)) hin662 (g := (mkF m 94 #[.val (.ref q1), .val (.int z1), .val (.int (8 : Int32)), .val (.int (5 : Int32))] [(.int (5 : Int32)), (.int (13 : Int32)), (.ref b423)])) rfl rfl (hb hby d2_94)
    refine own_go st663 ?_
    have le_663 : h657.size ≤ h663.size := Nat.le_of_eq W663.size.symm
    have K663 : Keep h0 h663 [q1] := Keep.wr K657 W663 (Or.inr sz481)
    have N663 := Fr.snoc X663 N657 ge480
    have V663 : Arv Z h663 b423 k423 .int (16 : Int32) [(.int (0 : Int32)), (.int (0 : Int32)), (.int (0 : Int32)), (.int (0 : Int32)), (.int (0 : Int32)), (.int (0 : Int32)), (.int (0 : Int32)), (.int (0 : Int32)), (.int (0 : Int32)), (.int (1 : Int32)), (.int (2 : Int32)), (.int (3 : Int32)), (.int (4 : Int32)), (.int (5 : Int32)), (.int (0 : Int32)), (.int (0 : Int32))] (.int (0 : Int32)) := Arv.set Ar662 q662 S662 N662 H662 G662 rfl W663 13 rfl (Nat.le_of_ble_eq_true rfl)
    refine own_go (fun _ => XS.iinc X663.here hx rfl (hb hby d2_95) rfl (l' := #[.val (.ref q1), .val (.int z1), .val (.int (8 : Int32)), .val (.int (6 : Int32))]) rfl) ?_
    refine own_go (fun _ => XS.goto X663.here hx rfl (pc0 := 98) (pc' := 50) rfl (hb hby d2_98) (by decide) (by decide)) ?_
    refine own_go (fun _ => XS.iloadN X663.here hx rfl (hb hby d2_50) rfl) ?_
    refine own_go (fun _ => XS.iloadN X663.here hx rfl (hb hby d2_51) rfl) ?_
    show ∃ t o, Steps p.tables e below (T663.setTop (mkF m 52 #[.val (.ref q1), .val (.int z1), .val (.int (8 : Int32)), .val (.int (6 : Int32))] [(.int (8 : Int32)), (.int (6 : Int32))])) t ∧ _
    refine own_go (fun _ => XS.icmpNo X663.here hx rfl (hb hby d2_52) rfl (tlt (by decide : (6 : Int32) < (8 : Int32))).2.1) ?_
    refine own_go (fun _ => XS.aloadN X663.here hx rfl (hb hby d2_55) rfl rfl) ?_
    have F664 := (Fld.other W663 (Fld.other W657 (Fld.other W651 (Fld.other W644 (Fld.keep (Fld.ext E631 F629) Kp636 (ninS ne645 nin0)) (Or.inl ne446)) (Or.inl ne457)) (Or.inl ne469)) (Or.inl ne482))
    obtain ⟨T665, X665, e665, st665⟩ := getF X663 hx hZ hown (host := "") (Or.inl w_27) Via.refl e663 F664 (g := (mkF m 56 #[.val (.ref q1), .val (.int z1), .val (.int (8 : Int32)), .val (.int (6 : Int32))] [(.ref q1)])) rfl rfl (hb hby d2_56)
    refine own_go st665 ?_
    refine own_go (fun _ => XS.iloadN X665.here hx rfl (hb hby d2_59) rfl) ?_
    show ∃ t o, Steps p.tables e below (T665.setTop (mkF m 60 #[.val (.ref q1), .val (.int z1), .val (.int (8 : Int32)), .val (.int (6 : Int32))] [(.int (6 : Int32)), (.ref b411)])) t ∧ _
    obtain ⟨T666, h666, X666, e666, E666, A666, D666, -, st666⟩ := newO X665 hx hZ hown w_25 w_38 w_39 e665 (g := (mkF m 60 #[.val (.ref q1), .val (.int z1), .val (.int (8 : Int32)), .val (.int (6 : Int32))] [(.int (6 : Int32)), (.ref b411)])) rfl (hb hby d2_60) (by decide) (by decide)
    obtain ⟨b666, g666⟩ : ∃ z, z = h663.size := ⟨_, rfl⟩
    rw [← g666] at A666 D666 st666
    refine own_go st666 ?_
    have le_666 : h663.size ≤ h666.size := E666.1
    have lt_b666 : b666 < h666.size := A666.lt
    have F_moments_b666 : Fld Z h666 b666 "com/example/holdback/holdback/sim/EventQueue$Stream" "moments" "[D" .null := D666 (Or.inl w_45) (ty := (.array .double)) (by decide)
    have F_places_b666 : Fld Z h666 b666 "com/example/holdback/holdback/sim/EventQueue$Stream" "places" "[J" .null := D666 (Or.inl w_47) (ty := (.array .long)) (by decide)
    have F_actions_b666 : Fld Z h666 b666 "com/example/holdback/holdback/sim/EventQueue$Stream" "actions" "[Ljava/lang/Runnable;" .null := D666 (Or.inl w_51) (ty := (.array (.object "java/lang/Runnable"))) (by decide)
    have F_lastAt_b666 : Fld Z h666 b666 "com/example/holdback/holdback/sim/EventQueue$Stream" "lastAt" "D" (defaultValue .double) := D666 (Or.inl w_85) (ty := .double) (by decide)
    have F_size_b666 : Fld Z h666 b666 "com/example/holdback/holdback/sim/EventQueue$Stream" "size" "I" (.int (0 : Int32)) := D666 (Or.inl w_94) (ty := .int) (by decide)
    have F_first_b666 : Fld Z h666 b666 "com/example/holdback/holdback/sim/EventQueue$Stream" "first" "I" (.int (0 : Int32)) := D666 (Or.inl w_96) (ty := .int) (by decide)
    have K666 : Keep h0 h666 [q1] := Keep.ext K663 E666
    have lt667 : (ac_636 : Nat) < b666 := by omega
    refine own_go (fun _ => XS.dup X666.here hx rfl (hb hby d2_63) rfl rfl) ?_
    show ∃ t o, Steps p.tables e below (T666.setTop (mkF m 64 #[.val (.ref q1), .val (.int z1), .val (.int (8 : Int32)), .val (.int (6 : Int32))] [(.ref b666), (.ref b666), (.int (6 : Int32)), (.ref b411)])) t ∧ _
    have F668 := ((Old.wr (Old.wr (Old.wr (Old.wr (Old.keep F633 Kp636 (allS ge634 all0)) W644 ge443) W651 ge455) W657 ge467) W663 ge480).ext E666)
    have ge669 : n0 ≤ b666 := by omega
    have zl670 : n0 ≤ h666.size := by omega
    obtain ⟨_, _, ⟨T671, L671, k671, n671⟩, -, X671, ⟨Lc671, hQ671, l671, y671, z671⟩, st671⟩ := own_specR X666 hx hZ (y := (⟨"com/example/holdback/holdback/sim/EventQueue$Stream", "<init>", "()V"⟩ : MethodName)) rfl hown w_40 w_41 w_42 (by decide) (backOf (W := 3) (rmSI l Z a0 hw [] b666 h666 n0 zl670 A666 F_moments_b666 F_places_b666 F_actions_b666 F_first_b666 F_size_b666 F_lastAt_b666 F668 ge669) hZ w_42 w_39 (by decide) (by decide)) (g := (mkF m 64 #[.val (.ref q1), .val (.int z1), .val (.int (8 : Int32)), .val (.int (6 : Int32))] [(.ref b666), (.ref b666), (.int (6 : Int32)), (.ref b411)])) rfl (by rw [hml]; rfl) (Steps.refl _) (a := b666) (argsL := []) (rest := [(.ref b666), (.int (6 : Int32)), (.ref b411)]) (lenOf pd__28_29V rfl) rfl (by show 2 * 0 + _ ≤ _; exact Nat.le_of_eq rfl) (hb hby d2_64) (fun _ _ => ⟨rfl, e666, (by decide : 29 + 3 ≤ _), (by decide : 226 + 24 ≤ _)⟩)
    dsimp only [Pt.U, Pt.locs, Pt.cells, Pt.slots] at X671 l671 y671 z671 st671 hQ671
    rw [l671, y671, z671] at X671
    obtain ⟨am_671, ap_671, ac_671, km_671, kp_671, kc_671, rfl, Nq671, Kp671, G671_0, G671_1, G671_2, G671_3, G671_4, G671_5, G671_6, G671_7, G671_8, H671_0, H671_1, H671_2⟩ := hQ671
    have N671 := Fr.app N663 Nq671
    refine own_goT st671 ?_
    have le_671 : h666.size ≤ T671.heap.size := Kp671.1
    have sz672 : h0.size ≤ b666 := by omega
    have K671 : Keep h0 T671.heap [q1] := Keep.trans K666 Kp671 (allS (Or.inr sz672) all0)
    have lt_am_671 : am_671 < T671.heap.size := (G671_6).lt
    have lt_ap_671 : ap_671 < T671.heap.size := (G671_7).lt
    have lt_ac_671 : ac_671 < T671.heap.size := (G671_8).lt
    have lt673 : (b666 : Nat) < am_671 := by omega
    have F675 := (Exa.keep A666 Kp671)
    have cs674 : own_S Z T671.heap b666 (ac_671 + 1) 0 0 := ⟨am_671, ap_671, ac_671, _, _, _, _, _, _, (0 : Int32), (0 : Int32), (0 : Int32), lt673, H671_1, H671_2, Nat.lt_succ_self _, F675, G671_0, G671_1, G671_2, G671_3, G671_4, own_la G671_5, G671_6, G671_7, G671_8, own_gm, own_gp, own_gc, ⟨by decide, by decide⟩, ⟨by decide, by decide⟩, by decide⟩
    have ne676 : b411 ≠ b666 := own_ne (by omega)
    have F677 := (Arv.keep ((Arv.other (Arv.other (Arv.other V644 W651 ne495) W657 ne496) W663 ne497).ext E666) Kp671 (ninS ne676 nin0))
    obtain ⟨cl678, Ar678, q678, S678, N678, H678, G678⟩ := id F677
    have hin678 : ¬ ((6 : Int32) < 0 ∨ cl678.slots.size ≤ ((6 : Int32)).toNatClampNeg) := inb_of S678 ⟨by decide, by decide⟩
    obtain ⟨T679, h679, X679, e679, W679, st679⟩ := stR X671 hx hZ rfl Ar678 (j := (6 : Int32)) hin678 rfl (Sto.ofV Ar678 q678 O411 (Ins.self F675)) (g := (mkF m 67 #[.val (.ref q1), .val (.int z1), .val (.int (8 : Int32)), .val (.int (6 : Int32))] [(.ref b666), (.int (6 : Int32)), (.ref b411)])) rfl rfl (hb hby d2_67)
    refine own_go st679 ?_
    have le_679 : T671.heap.size ≤ h679.size := Nat.le_of_eq W679.size.symm
    have K679 : Keep h0 h679 [q1] := Keep.wr K671 W679 (Or.inr sz444)
    have N679 := Fr.snoc X679 N671 ge443
    have V679 : Arv Z h679 b411 k411 (.object "com/example/holdback/holdback/sim/EventQueue$Stream") (8 : Int32) [(.ref b429), (.ref b485), (.ref b526), (.ref b561), (.ref b596), (.ref b631), (.ref b666), .null] .null := Arv.set Ar678 q678 S678 N678 H678 G678 rfl W679 6 rfl (Nat.le_of_ble_eq_true rfl)
    refine own_go (fun _ => XS.aloadN X679.here hx rfl (hb hby d2_68) rfl rfl) ?_
    have ne680 : q1 ≠ b666 := own_ne (by omega)
    have F681 := (Fld.other W679 (Fld.keep (Fld.ext E666 (Fld.other W663 (Fld.other W657 (Fld.other W651 F646 (Or.inl ne457)) (Or.inl ne469)) (Or.inl ne482))) Kp671 (ninS ne680 nin0)) (Or.inl ne446))
    obtain ⟨T682, X682, e682, st682⟩ := getF X679 hx hZ hown (host := "") (Or.inl w_30) Via.refl e679 F681 (g := (mkF m 69 #[.val (.ref q1), .val (.int z1), .val (.int (8 : Int32)), .val (.int (6 : Int32))] [(.ref q1)])) rfl rfl (hb hby d2_69)
    refine own_go st682 ?_
    refine own_go (fun _ => XS.iloadN X682.here hx rfl (hb hby d2_72) rfl) ?_
    refine own_go (fun _ => X682.ldc2DoubleC hx hown (mvT hZ w_53) (g := (mkF m 73 #[.val (.ref q1), .val (.int z1), .val (.int (8 : Int32)), .val (.int (6 : Int32))] [(.int (6 : Int32)), (.ref b415)])) rfl (hb hby d2_73) _) ?_
    have ne683 : b415 ≠ b666 := own_ne (by omega)
    have F684 := (Arv.other (Arv.keep ((Arv.other (Arv.other V651 W657 ne505) W663 ne506).ext E666) Kp671 (ninS ne683 nin0)) W679 ne451)
    obtain ⟨cl685, Ar685, q685, S685, N685, H685, G685⟩ := id F684
    have hin685 : ¬ ((6 : Int32) < 0 ∨ cl685.slots.size ≤ ((6 : Int32)).toNatClampNeg) := inb_of S685 ⟨by decide, by decide⟩
    obtain ⟨T686, h686, X686, e686, W686, st686⟩ := stD X682 hx hZ e682 Ar685 (j := (6 : Int32)) hin685 (g := (mkF m 76 #[.val (.ref q1), .val (.int z1), .val (.int (8 : Int32)), .val (.int (6 : Int32))] [(.double (9218868437227405312 : UInt64)), (.int (6 : Int32)), (.ref b415)])) rfl rfl (hb hby d2_76)
    refine own_go st686 ?_
    have le_686 : h679.size ≤ h686.size := Nat.le_of_eq W686.size.symm
    have K686 : Keep h0 h686 [q1] := Keep.wr K679 W686 (Or.inr sz456)
    have N686 := Fr.snoc X686 N679 ge455
    have V686 : Arv Z h686 b415 k415 .double (8 : Int32) [(.double (9218868437227405312 : UInt64)), (.double (9218868437227405312 : UInt64)), (.double (9218868437227405312 : UInt64)), (.double (9218868437227405312 : UInt64)), (.double (9218868437227405312 : UInt64)), (.double (9218868437227405312 : UInt64)), (.double (9218868437227405312 : UInt64)), (.double (0 : UInt64))] (.double (0 : UInt64)) := Arv.set Ar685 q685 S685 N685 H685 G685 rfl W686 6 rfl (Nat.le_of_ble_eq_true rfl)
    refine own_go (fun _ => XS.aloadN X686.here hx rfl (hb hby d2_77) rfl rfl) ?_
    show ∃ t o, Steps p.tables e below (T686.setTop (mkF m 78 #[.val (.ref q1), .val (.int z1), .val (.int (8 : Int32)), .val (.int (6 : Int32))] [(.ref q1)])) t ∧ _
    have F687 := (Fld.other W686 (Fld.other W679 (Fld.keep (Fld.ext E666 (Fld.other W663 (Fld.other W657 F652 (Or.inl ne469)) (Or.inl ne482))) Kp671 (ninS ne680 nin0)) (Or.inl ne446)) (Or.inl ne457))
    obtain ⟨T688, X688, e688, st688⟩ := getF X686 hx hZ hown (host := "") (Or.inl w_33) Via.refl e686 F687 (g := (mkF m 78 #[.val (.ref q1), .val (.int z1), .val (.int (8 : Int32)), .val (.int (6 : Int32))] [(.ref q1)])) rfl rfl (hb hby d2_78)
    refine own_go st688 ?_
    refine own_go (fun _ => XS.iloadN X688.here hx rfl (hb hby d2_81) rfl) ?_
    refine own_go (fun _ => X688.ldc2Long hx hown (mvT hZ w_54) (g := (mkF m 82 #[.val (.ref q1), .val (.int z1), .val (.int (8 : Int32)), .val (.int (6 : Int32))] [(.int (6 : Int32)), (.ref b419)])) rfl (hb hby d2_82) _) ?_
    have ne689 : b419 ≠ b666 := own_ne (by omega)
    have F690 := (Arv.other (Arv.other (Arv.keep ((Arv.other V657 W663 ne513).ext E666) Kp671 (ninS ne689 nin0)) W679 ne462) W686 ne463)
    obtain ⟨cl691, Ar691, q691, S691, N691, H691, G691⟩ := id F690
    have hin691 : ¬ ((6 : Int32) < 0 ∨ cl691.slots.size ≤ ((6 : Int32)).toNatClampNeg) := inb_of S691 ⟨by decide, by decide⟩
    obtain ⟨T692, h692, X692, e692, W692, st692⟩ := stJ X688 hx hZ e688 Ar691 (j := (6 : Int32)) hin691 (g := (mkF m 85 #[.val (.ref q1), .val (.int z1), .val (.int (8 : Int32)), .val (.int (6 : Int32))] [(.long (9223372036854775807 : Int64)), (.int (6 : Int32)), (.ref b419)])) rfl rfl (hb hby d2_85)
    refine own_go st692 ?_
    have le_692 : h686.size ≤ h692.size := Nat.le_of_eq W692.size.symm
    have K692 : Keep h0 h692 [q1] := Keep.wr K686 W692 (Or.inr sz468)
    have N692 := Fr.snoc X692 N686 ge467
    have V692 : Arv Z h692 b419 k419 .long (8 : Int32) [(.long (9223372036854775807 : Int64)), (.long (9223372036854775807 : Int64)), (.long (9223372036854775807 : Int64)), (.long (9223372036854775807 : Int64)), (.long (9223372036854775807 : Int64)), (.long (9223372036854775807 : Int64)), (.long (9223372036854775807 : Int64)), (.long (0 : Int64))] (.long (0 : Int64)) := Arv.set Ar691 q691 S691 N691 H691 G691 rfl W692 6 rfl (Nat.le_of_ble_eq_true rfl)
    refine own_go (fun _ => XS.aloadN X692.here hx rfl (hb hby d2_86) rfl rfl) ?_
    have F693 := (Fld.other W692 (Fld.other W686 (Fld.other W679 (Fld.keep (Fld.ext E666 (Fld.other W663 F658 (Or.inl ne482))) Kp671 (ninS ne680 nin0)) (Or.inl ne446)) (Or.inl ne457)) (Or.inl ne469))
    obtain ⟨T694, X694, e694, st694⟩ := getF X692 hx hZ hown (host := "") (Or.inl w_36) Via.refl e692 F693 (g := (mkF m 87 #[.val (.ref q1), .val (.int z1), .val (.int (8 : Int32)), .val (.int (6 : Int32))] [(.ref q1)])) rfl rfl (hb hby d2_87)
    refine own_go st694 ?_
    refine own_go (fun _ => XS.iloadN X694.here hx rfl (hb hby d2_90) rfl) ?_
    refine own_go (fun _ => XS.iloadN X694.here hx rfl (hb hby d2_91) rfl) ?_
    show ∃ t o, Steps p.tables e below (T694.setTop (mkF m 92 #[.val (.ref q1), .val (.int z1), .val (.int (8 : Int32)), .val (.int (6 : Int32))] [(.int (6 : Int32)), (.int (8 : Int32)), (.ref b423)])) t ∧ _
    refine own_go (fun _ => XS.iadd X694.here hx rfl (hb hby d2_92) rfl) ?_
    refine own_go (fun _ => XS.iloadN X694.here hx rfl (hb hby d2_93) rfl) ?_
    have ne695 : b423 ≠ b666 := own_ne (by omega)
    have F696 := (Arv.other (Arv.other (Arv.other (Arv.keep (V663.ext E666) Kp671 (ninS ne695 nin0)) W679 ne474) W686 ne475) W692 ne476)
    obtain ⟨cl697, Ar697, q697, S697, N697, H697, G697⟩ := id F696
    have hin697 : ¬ ((14 : Int32) < 0 ∨ cl697.slots.size ≤ ((14 : Int32)).toNatClampNeg) := inb_of S697 ⟨by decide, by decide⟩
    obtain ⟨T698, h698, X698, e698, W698, st698⟩ := stI X694 hx hZ e694 Ar697 (j := (14 : Int32)) hin697 (g := (mkF m 94 #[.val (.ref q1), .val (.int z1), .val (.int (8 : Int32)), .val (.int (6 : Int32))] [(.int (6 : Int32)), (.int (14 : Int32)), (.ref b423)])) rfl rfl (hb hby d2_94)
    refine own_go st698 ?_
    have le_698 : h692.size ≤ h698.size := Nat.le_of_eq W698.size.symm
    have K698 : Keep h0 h698 [q1] := Keep.wr K692 W698 (Or.inr sz481)
    have N698 := Fr.snoc X698 N692 ge480
    have V698 : Arv Z h698 b423 k423 .int (16 : Int32) [(.int (0 : Int32)), (.int (0 : Int32)), (.int (0 : Int32)), (.int (0 : Int32)), (.int (0 : Int32)), (.int (0 : Int32)), (.int (0 : Int32)), (.int (0 : Int32)), (.int (0 : Int32)), (.int (1 : Int32)), (.int (2 : Int32)), (.int (3 : Int32)), (.int (4 : Int32)), (.int (5 : Int32)), (.int (6 : Int32)), (.int (0 : Int32))] (.int (0 : Int32)) := Arv.set Ar697 q697 S697 N697 H697 G697 rfl W698 14 rfl (Nat.le_of_ble_eq_true rfl)
    refine own_go (fun _ => XS.iinc X698.here hx rfl (hb hby d2_95) rfl (l' := #[.val (.ref q1), .val (.int z1), .val (.int (8 : Int32)), .val (.int (7 : Int32))]) rfl) ?_
    refine own_go (fun _ => XS.goto X698.here hx rfl (pc0 := 98) (pc' := 50) rfl (hb hby d2_98) (by decide) (by decide)) ?_
    refine own_go (fun _ => XS.iloadN X698.here hx rfl (hb hby d2_50) rfl) ?_
    refine own_go (fun _ => XS.iloadN X698.here hx rfl (hb hby d2_51) rfl) ?_
    show ∃ t o, Steps p.tables e below (T698.setTop (mkF m 52 #[.val (.ref q1), .val (.int z1), .val (.int (8 : Int32)), .val (.int (7 : Int32))] [(.int (8 : Int32)), (.int (7 : Int32))])) t ∧ _
    refine own_go (fun _ => XS.icmpNo X698.here hx rfl (hb hby d2_52) rfl (tlt (by decide : (7 : Int32) < (8 : Int32))).2.1) ?_
    refine own_go (fun _ => XS.aloadN X698.here hx rfl (hb hby d2_55) rfl rfl) ?_
    have F699 := (Fld.other W698 (Fld.other W692 (Fld.other W686 (Fld.other W679 (Fld.keep (Fld.ext E666 F664) Kp671 (ninS ne680 nin0)) (Or.inl ne446)) (Or.inl ne457)) (Or.inl ne469)) (Or.inl ne482))
    obtain ⟨T700, X700, e700, st700⟩ := getF X698 hx hZ hown (host := "") (Or.inl w_27) Via.refl e698 F699 (g := (mkF m 56 #[.val (.ref q1), .val (.int z1), .val (.int (8 : Int32)), .val (.int (7 : Int32))] [(.ref q1)])) rfl rfl (hb hby d2_56)
    refine own_go st700 ?_
    refine own_go (fun _ => XS.iloadN X700.here hx rfl (hb hby d2_59) rfl) ?_
    show ∃ t o, Steps p.tables e below (T700.setTop (mkF m 60 #[.val (.ref q1), .val (.int z1), .val (.int (8 : Int32)), .val (.int (7 : Int32))] [(.int (7 : Int32)), (.ref b411)])) t ∧ _
    obtain ⟨T701, h701, X701, e701, E701, A701, D701, -, st701⟩ := newO X700 hx hZ hown w_25 w_38 w_39 e700 (g := (mkF m 60 #[.val (.ref q1), .val (.int z1), .val (.int (8 : Int32)), .val (.int (7 : Int32))] [(.int (7 : Int32)), (.ref b411)])) rfl (hb hby d2_60) (by decide) (by decide)
    obtain ⟨b701, g701⟩ : ∃ z, z = h698.size := ⟨_, rfl⟩
    rw [← g701] at A701 D701 st701
    refine own_go st701 ?_
    have le_701 : h698.size ≤ h701.size := E701.1
    have lt_b701 : b701 < h701.size := A701.lt
    have F_moments_b701 : Fld Z h701 b701 "com/example/holdback/holdback/sim/EventQueue$Stream" "moments" "[D" .null := D701 (Or.inl w_45) (ty := (.array .double)) (by decide)
    have F_places_b701 : Fld Z h701 b701 "com/example/holdback/holdback/sim/EventQueue$Stream" "places" "[J" .null := D701 (Or.inl w_47) (ty := (.array .long)) (by decide)
    have F_actions_b701 : Fld Z h701 b701 "com/example/holdback/holdback/sim/EventQueue$Stream" "actions" "[Ljava/lang/Runnable;" .null := D701 (Or.inl w_51) (ty := (.array (.object "java/lang/Runnable"))) (by decide)
    have F_lastAt_b701 : Fld Z h701 b701 "com/example/holdback/holdback/sim/EventQueue$Stream" "lastAt" "D" (defaultValue .double) := D701 (Or.inl w_85) (ty := .double) (by decide)
    have F_size_b701 : Fld Z h701 b701 "com/example/holdback/holdback/sim/EventQueue$Stream" "size" "I" (.int (0 : Int32)) := D701 (Or.inl w_94) (ty := .int) (by decide)
    have F_first_b701 : Fld Z h701 b701 "com/example/holdback/holdback/sim/EventQueue$Stream" "first" "I" (.int (0 : Int32)) := D701 (Or.inl w_96) (ty := .int) (by decide)
    have K701 : Keep h0 h701 [q1] := Keep.ext K698 E701
    have lt702 : (ac_671 : Nat) < b701 := by omega
    refine own_go (fun _ => XS.dup X701.here hx rfl (hb hby d2_63) rfl rfl) ?_
    show ∃ t o, Steps p.tables e below (T701.setTop (mkF m 64 #[.val (.ref q1), .val (.int z1), .val (.int (8 : Int32)), .val (.int (7 : Int32))] [(.ref b701), (.ref b701), (.int (7 : Int32)), (.ref b411)])) t ∧ _
    have F703 := ((Old.wr (Old.wr (Old.wr (Old.wr (Old.keep F668 Kp671 (allS ge669 all0)) W679 ge443) W686 ge455) W692 ge467) W698 ge480).ext E701)
    have ge704 : n0 ≤ b701 := by omega
    have zl705 : n0 ≤ h701.size := by omega
    obtain ⟨_, _, ⟨T706, L706, k706, n706⟩, -, X706, ⟨Lc706, hQ706, l706, y706, z706⟩, st706⟩ := own_specR X701 hx hZ (y := (⟨"com/example/holdback/holdback/sim/EventQueue$Stream", "<init>", "()V"⟩ : MethodName)) rfl hown w_40 w_41 w_42 (by decide) (backOf (W := 3) (rmSI l Z a0 hw [] b701 h701 n0 zl705 A701 F_moments_b701 F_places_b701 F_actions_b701 F_first_b701 F_size_b701 F_lastAt_b701 F703 ge704) hZ w_42 w_39 (by decide) (by decide)) (g := (mkF m 64 #[.val (.ref q1), .val (.int z1), .val (.int (8 : Int32)), .val (.int (7 : Int32))] [(.ref b701), (.ref b701), (.int (7 : Int32)), (.ref b411)])) rfl (by rw [hml]; rfl) (Steps.refl _) (a := b701) (argsL := []) (rest := [(.ref b701), (.int (7 : Int32)), (.ref b411)]) (lenOf pd__28_29V rfl) rfl (by show 2 * 0 + _ ≤ _; exact Nat.le_of_eq rfl) (hb hby d2_64) (fun _ _ => ⟨rfl, e701, (by decide : 33 + 3 ≤ _), (by decide : 256 + 24 ≤ _)⟩)
    dsimp only [Pt.U, Pt.locs, Pt.cells, Pt.slots] at X706 l706 y706 z706 st706 hQ706
    rw [l706, y706, z706] at X706
    obtain ⟨am_706, ap_706, ac_706, km_706, kp_706, kc_706, rfl, Nq706, Kp706, G706_0, G706_1, G706_2, G706_3, G706_4, G706_5, G706_6, G706_7, G706_8, H706_0, H706_1, H706_2⟩ := hQ706
    have N706 := Fr.app N698 Nq706
    refine own_goT st706 ?_
    have le_706 : h701.size ≤ T706.heap.size := Kp706.1
    have sz707 : h0.size ≤ b701 := by omega
    have K706 : Keep h0 T706.heap [q1] := Keep.trans K701 Kp706 (allS (Or.inr sz707) all0)
    have lt_am_706 : am_706 < T706.heap.size := (G706_6).lt
    have lt_ap_706 : ap_706 < T706.heap.size := (G706_7).lt
    have lt_ac_706 : ac_706 < T706.heap.size := (G706_8).lt
    have lt708 : (b701 : Nat) < am_706 := by omega
    have F710 := (Exa.keep A701 Kp706)
    have cs709 : own_S Z T706.heap b701 (ac_706 + 1) 0 0 := ⟨am_706, ap_706, ac_706, _, _, _, _, _, _, (0 : Int32), (0 : Int32), (0 : Int32), lt708, H706_1, H706_2, Nat.lt_succ_self _, F710, G706_0, G706_1, G706_2, G706_3, G706_4, own_la G706_5, G706_6, G706_7, G706_8, own_gm, own_gp, own_gc, ⟨by decide, by decide⟩, ⟨by decide, by decide⟩, by decide⟩
    have ne711 : b411 ≠ b701 := own_ne (by omega)
    have F712 := (Arv.keep ((Arv.other (Arv.other (Arv.other V679 W686 ne495) W692 ne496) W698 ne497).ext E701) Kp706 (ninS ne711 nin0))
    obtain ⟨cl713, Ar713, q713, S713, N713, H713, G713⟩ := id F712
    have hin713 : ¬ ((7 : Int32) < 0 ∨ cl713.slots.size ≤ ((7 : Int32)).toNatClampNeg) := inb_of S713 ⟨by decide, by decide⟩
    obtain ⟨T714, h714, X714, e714, W714, st714⟩ := stR X706 hx hZ rfl Ar713 (j := (7 : Int32)) hin713 rfl (Sto.ofV Ar713 q713 O411 (Ins.self F710)) (g := (mkF m 67 #[.val (.ref q1), .val (.int z1), .val (.int (8 : Int32)), .val (.int (7 : Int32))] [(.ref b701), (.int (7 : Int32)), (.ref b411)])) rfl rfl (hb hby d2_67)
    refine own_go st714 ?_
    have le_714 : T706.heap.size ≤ h714.size := Nat.le_of_eq W714.size.symm
    have K714 : Keep h0 h714 [q1] := Keep.wr K706 W714 (Or.inr sz444)
    have N714 := Fr.snoc X714 N706 ge443
    have V714 : Arv Z h714 b411 k411 (.object "com/example/holdback/holdback/sim/EventQueue$Stream") (8 : Int32) [(.ref b429), (.ref b485), (.ref b526), (.ref b561), (.ref b596), (.ref b631), (.ref b666), (.ref b701)] .null := Arv.set Ar713 q713 S713 N713 H713 G713 rfl W714 7 rfl (Nat.le_of_ble_eq_true rfl)
    refine own_go (fun _ => XS.aloadN X714.here hx rfl (hb hby d2_68) rfl rfl) ?_
    have ne715 : q1 ≠ b701 := own_ne (by omega)
    have F716 := (Fld.other W714 (Fld.keep (Fld.ext E701 (Fld.other W698 (Fld.other W692 (Fld.other W686 F681 (Or.inl ne457)) (Or.inl ne469)) (Or.inl ne482))) Kp706 (ninS ne715 nin0)) (Or.inl ne446))
    obtain ⟨T717, X717, e717, st717⟩ := getF X714 hx hZ hown (host := "") (Or.inl w_30) Via.refl e714 F716 (g := (mkF m 69 #[.val (.ref q1), .val (.int z1), .val (.int (8 : Int32)), .val (.int (7 : Int32))] [(.ref q1)])) rfl rfl (hb hby d2_69)
    refine own_go st717 ?_
    refine own_go (fun _ => XS.iloadN X717.here hx rfl (hb hby d2_72) rfl) ?_
    refine own_go (fun _ => X717.ldc2DoubleC hx hown (mvT hZ w_53) (g := (mkF m 73 #[.val (.ref q1), .val (.int z1), .val (.int (8 : Int32)), .val (.int (7 : Int32))] [(.int (7 : Int32)), (.ref b415)])) rfl (hb hby d2_73) _) ?_
    have ne718 : b415 ≠ b701 := own_ne (by omega)
    have F719 := (Arv.other (Arv.keep ((Arv.other (Arv.other V686 W692 ne505) W698 ne506).ext E701) Kp706 (ninS ne718 nin0)) W714 ne451)
    obtain ⟨cl720, Ar720, q720, S720, N720, H720, G720⟩ := id F719
    have hin720 : ¬ ((7 : Int32) < 0 ∨ cl720.slots.size ≤ ((7 : Int32)).toNatClampNeg) := inb_of S720 ⟨by decide, by decide⟩
    obtain ⟨T721, h721, X721, e721, W721, st721⟩ := stD X717 hx hZ e717 Ar720 (j := (7 : Int32)) hin720 (g := (mkF m 76 #[.val (.ref q1), .val (.int z1), .val (.int (8 : Int32)), .val (.int (7 : Int32))] [(.double (9218868437227405312 : UInt64)), (.int (7 : Int32)), (.ref b415)])) rfl rfl (hb hby d2_76)
    refine own_go st721 ?_
    have le_721 : h714.size ≤ h721.size := Nat.le_of_eq W721.size.symm
    have K721 : Keep h0 h721 [q1] := Keep.wr K714 W721 (Or.inr sz456)
    have N721 := Fr.snoc X721 N714 ge455
    have V721 : Arv Z h721 b415 k415 .double (8 : Int32) [(.double (9218868437227405312 : UInt64)), (.double (9218868437227405312 : UInt64)), (.double (9218868437227405312 : UInt64)), (.double (9218868437227405312 : UInt64)), (.double (9218868437227405312 : UInt64)), (.double (9218868437227405312 : UInt64)), (.double (9218868437227405312 : UInt64)), (.double (9218868437227405312 : UInt64))] (.double (0 : UInt64)) := Arv.set Ar720 q720 S720 N720 H720 G720 rfl W721 7 rfl (Nat.le_of_ble_eq_true rfl)
    refine own_go (fun _ => XS.aloadN X721.here hx rfl (hb hby d2_77) rfl rfl) ?_
    show ∃ t o, Steps p.tables e below (T721.setTop (mkF m 78 #[.val (.ref q1), .val (.int z1), .val (.int (8 : Int32)), .val (.int (7 : Int32))] [(.ref q1)])) t ∧ _
    have F722 := (Fld.other W721 (Fld.other W714 (Fld.keep (Fld.ext E701 (Fld.other W698 (Fld.other W692 F687 (Or.inl ne469)) (Or.inl ne482))) Kp706 (ninS ne715 nin0)) (Or.inl ne446)) (Or.inl ne457))
    obtain ⟨T723, X723, e723, st723⟩ := getF X721 hx hZ hown (host := "") (Or.inl w_33) Via.refl e721 F722 (g := (mkF m 78 #[.val (.ref q1), .val (.int z1), .val (.int (8 : Int32)), .val (.int (7 : Int32))] [(.ref q1)])) rfl rfl (hb hby d2_78)
    refine own_go st723 ?_
    refine own_go (fun _ => XS.iloadN X723.here hx rfl (hb hby d2_81) rfl) ?_
    refine own_go (fun _ => X723.ldc2Long hx hown (mvT hZ w_54) (g := (mkF m 82 #[.val (.ref q1), .val (.int z1), .val (.int (8 : Int32)), .val (.int (7 : Int32))] [(.int (7 : Int32)), (.ref b419)])) rfl (hb hby d2_82) _) ?_
    have ne724 : b419 ≠ b701 := own_ne (by omega)
    have F725 := (Arv.other (Arv.other (Arv.keep ((Arv.other V692 W698 ne513).ext E701) Kp706 (ninS ne724 nin0)) W714 ne462) W721 ne463)
    obtain ⟨cl726, Ar726, q726, S726, N726, H726, G726⟩ := id F725
    have hin726 : ¬ ((7 : Int32) < 0 ∨ cl726.slots.size ≤ ((7 : Int32)).toNatClampNeg) := inb_of S726 ⟨by decide, by decide⟩
    obtain ⟨T727, h727, X727, e727, W727, st727⟩ := stJ X723 hx hZ e723 Ar726 (j := (7 : Int32)) hin726 (g := (mkF m 85 #[.val (.ref q1), .val (.int z1), .val (.int (8 : Int32)), .val (.int (7 : Int32))] [(.long (9223372036854775807 : Int64)), (.int (7 : Int32)), (.ref b419)])) rfl rfl (hb hby d2_85)
    refine own_go st727 ?_
    have le_727 : h721.size ≤ h727.size := Nat.le_of_eq W727.size.symm
    have K727 : Keep h0 h727 [q1] := Keep.wr K721 W727 (Or.inr sz468)
    have N727 := Fr.snoc X727 N721 ge467
    have V727 : Arv Z h727 b419 k419 .long (8 : Int32) [(.long (9223372036854775807 : Int64)), (.long (9223372036854775807 : Int64)), (.long (9223372036854775807 : Int64)), (.long (9223372036854775807 : Int64)), (.long (9223372036854775807 : Int64)), (.long (9223372036854775807 : Int64)), (.long (9223372036854775807 : Int64)), (.long (9223372036854775807 : Int64))] (.long (0 : Int64)) := Arv.set Ar726 q726 S726 N726 H726 G726 rfl W727 7 rfl (Nat.le_of_ble_eq_true rfl)
    refine own_go (fun _ => XS.aloadN X727.here hx rfl (hb hby d2_86) rfl rfl) ?_
    have F728 := (Fld.other W727 (Fld.other W721 (Fld.other W714 (Fld.keep (Fld.ext E701 (Fld.other W698 F693 (Or.inl ne482))) Kp706 (ninS ne715 nin0)) (Or.inl ne446)) (Or.inl ne457)) (Or.inl ne469))
    obtain ⟨T729, X729, e729, st729⟩ := getF X727 hx hZ hown (host := "") (Or.inl w_36) Via.refl e727 F728 (g := (mkF m 87 #[.val (.ref q1), .val (.int z1), .val (.int (8 : Int32)), .val (.int (7 : Int32))] [(.ref q1)])) rfl rfl (hb hby d2_87)
    refine own_go st729 ?_
    refine own_go (fun _ => XS.iloadN X729.here hx rfl (hb hby d2_90) rfl) ?_
    refine own_go (fun _ => XS.iloadN X729.here hx rfl (hb hby d2_91) rfl) ?_
    show ∃ t o, Steps p.tables e below (T729.setTop (mkF m 92 #[.val (.ref q1), .val (.int z1), .val (.int (8 : Int32)), .val (.int (7 : Int32))] [(.int (7 : Int32)), (.int (8 : Int32)), (.ref b423)])) t ∧ _
    refine own_go (fun _ => XS.iadd X729.here hx rfl (hb hby d2_92) rfl) ?_
    refine own_go (fun _ => XS.iloadN X729.here hx rfl (hb hby d2_93) rfl) ?_
    have ne730 : b423 ≠ b701 := own_ne (by omega)
    have F731 := (Arv.other (Arv.other (Arv.other (Arv.keep (V698.ext E701) Kp706 (ninS ne730 nin0)) W714 ne474) W721 ne475) W727 ne476)
    obtain ⟨cl732, Ar732, q732, S732, N732, H732, G732⟩ := id F731
    have hin732 : ¬ ((15 : Int32) < 0 ∨ cl732.slots.size ≤ ((15 : Int32)).toNatClampNeg) := inb_of S732 ⟨by decide, by decide⟩
    obtain ⟨T733, h733, X733, e733, W733, st733⟩ := stI X729 hx hZ e729 Ar732 (j := (15 : Int32)) hin732 (g := (mkF m 94 #[.val (.ref q1), .val (.int z1), .val (.int (8 : Int32)), .val (.int (7 : Int32))] [(.int (7 : Int32)), (.int (15 : Int32)), (.ref b423)])) rfl rfl (hb hby d2_94)
    refine own_go st733 ?_
    have le_733 : h727.size ≤ h733.size := Nat.le_of_eq W733.size.symm
    have K733 : Keep h0 h733 [q1] := Keep.wr K727 W733 (Or.inr sz481)
    have N733 := Fr.snoc X733 N727 ge480
    have V733 : Arv Z h733 b423 k423 .int (16 : Int32) [(.int (0 : Int32)), (.int (0 : Int32)), (.int (0 : Int32)), (.int (0 : Int32)), (.int (0 : Int32)), (.int (0 : Int32)), (.int (0 : Int32)), (.int (0 : Int32)), (.int (0 : Int32)), (.int (1 : Int32)), (.int (2 : Int32)), (.int (3 : Int32)), (.int (4 : Int32)), (.int (5 : Int32)), (.int (6 : Int32)), (.int (7 : Int32))] (.int (0 : Int32)) := Arv.set Ar732 q732 S732 N732 H732 G732 rfl W733 15 rfl (Nat.le_of_ble_eq_true rfl)
    refine own_go (fun _ => XS.iinc X733.here hx rfl (hb hby d2_95) rfl (l' := #[.val (.ref q1), .val (.int z1), .val (.int (8 : Int32)), .val (.int (8 : Int32))]) rfl) ?_
    refine own_go (fun _ => XS.goto X733.here hx rfl (pc0 := 98) (pc' := 50) rfl (hb hby d2_98) (by decide) (by decide)) ?_
    refine own_go (fun _ => XS.iloadN X733.here hx rfl (hb hby d2_50) rfl) ?_
    refine own_go (fun _ => XS.iloadN X733.here hx rfl (hb hby d2_51) rfl) ?_
    show ∃ t o, Steps p.tables e below (T733.setTop (mkF m 52 #[.val (.ref q1), .val (.int z1), .val (.int (8 : Int32)), .val (.int (8 : Int32))] [(.int (8 : Int32)), (.int (8 : Int32))])) t ∧ _
    refine own_go (fun _ => XS.icmpYes X733.here hx rfl (pc0 := 52) (pc' := 101) rfl (hb hby d2_52) rfl (flt (by decide : ¬ ((8 : Int32) < (8 : Int32)))).2.1 (by decide) (by decide)) ?_
    refine own_go (fun _ => XS.iloadN X733.here hx rfl (hb hby d2_101) rfl) ?_
    refine own_go (fun _ => XS.iconst X733.here hx rfl (hb hby d2_102)) ?_
    refine own_go (fun _ => XS.isub X733.here hx rfl (hb hby d2_103) rfl) ?_
    refine own_go (fun _ => XS.istoreN X733.here hx rfl (hb hby d2_104) rfl (l' := #[.val (.ref q1), .val (.int z1), .val (.int (8 : Int32)), .val (.int (7 : Int32))]) rfl) ?_
    have Gi734 : own_G own_pd (.double (0 : UInt64)) (8 : Int32) [(.double (9218868437227405312 : UInt64)), (.double (9218868437227405312 : UInt64)), (.double (9218868437227405312 : UInt64)), (.double (9218868437227405312 : UInt64)), (.double (9218868437227405312 : UInt64)), (.double (9218868437227405312 : UInt64)), (.double (9218868437227405312 : UInt64)), (.double (9218868437227405312 : UInt64))] := own_G.all rfl (own_cS ⟨_, rfl, own_inf⟩ (own_cS ⟨_, rfl, own_inf⟩ (own_cS ⟨_, rfl, own_inf⟩ (own_cS ⟨_, rfl, own_inf⟩ (own_cS ⟨_, rfl, own_inf⟩ (own_cS ⟨_, rfl, own_inf⟩ (own_cS ⟨_, rfl, own_inf⟩ (own_cS ⟨_, rfl, own_inf⟩ own_c0))))))))
    have Gi735 : own_G own_pj (.long (0 : Int64)) (8 : Int32) [(.long (9223372036854775807 : Int64)), (.long (9223372036854775807 : Int64)), (.long (9223372036854775807 : Int64)), (.long (9223372036854775807 : Int64)), (.long (9223372036854775807 : Int64)), (.long (9223372036854775807 : Int64)), (.long (9223372036854775807 : Int64)), (.long (9223372036854775807 : Int64))] := own_G.all rfl (own_cS ⟨_, rfl⟩ (own_cS ⟨_, rfl⟩ (own_cS ⟨_, rfl⟩ (own_cS ⟨_, rfl⟩ (own_cS ⟨_, rfl⟩ (own_cS ⟨_, rfl⟩ (own_cS ⟨_, rfl⟩ (own_cS ⟨_, rfl⟩ own_c0))))))))
    have Gi736 : own_G (own_pw (8 : Int32)) (.int (0 : Int32)) (16 : Int32) [(.int (0 : Int32)), (.int (0 : Int32)), (.int (0 : Int32)), (.int (0 : Int32)), (.int (0 : Int32)), (.int (0 : Int32)), (.int (0 : Int32)), (.int (0 : Int32)), (.int (0 : Int32)), (.int (1 : Int32)), (.int (2 : Int32)), (.int (3 : Int32)), (.int (4 : Int32)), (.int (5 : Int32)), (.int (6 : Int32)), (.int (7 : Int32))] := own_G.all rfl (own_cS ⟨_, rfl, by decide, by decide⟩ (own_cS ⟨_, rfl, by decide, by decide⟩ (own_cS ⟨_, rfl, by decide, by decide⟩ (own_cS ⟨_, rfl, by decide, by decide⟩ (own_cS ⟨_, rfl, by decide, by decide⟩ (own_cS ⟨_, rfl, by decide, by decide⟩ (own_cS ⟨_, rfl, by decide, by decide⟩ (own_cS ⟨_, rfl, by decide, by decide⟩ (own_cS ⟨_, rfl, by decide, by decide⟩ (own_cS ⟨_, rfl, by decide, by decide⟩ (own_cS ⟨_, rfl, by decide, by decide⟩ (own_cS ⟨_, rfl, by decide, by decide⟩ (own_cS ⟨_, rfl, by decide, by decide⟩ (own_cS ⟨_, rfl, by decide, by decide⟩ (own_cS ⟨_, rfl, by decide, by decide⟩ (own_cS ⟨_, rfl, by decide, by decide⟩ own_c0))))))))))))))))
    have hN737 : own_N (8 : Int32) (16 : Int32) := (Or.inr (Or.inr ⟨rfl, rfl⟩))
    refine own_go (fun _ => XS.iloadN X733.here hx rfl (hb hby d2_105) rfl) ?_
    show ∃ t o, Steps p.tables e below (T733.setTop (mkF m 106 #[.val (.ref q1), .val (.int z1), .val (.int (8 : Int32)), .val (.int (7 : Int32))] [(.int (7 : Int32))])) t ∧ _
    refine own_go (fun _ => XS.ifNo X733.here hx rfl (hb hby d2_106) rfl ((if0 _ _).trans (tlt (by decide : (0 : Int32) < (7 : Int32))).2.2.2)) ?_
    refine own_go (fun _ => XS.aloadN X733.here hx rfl (hb hby d2_109) rfl rfl) ?_
    refine own_go (fun _ => XS.iloadN X733.here hx rfl (hb hby d2_110) rfl) ?_
    show ∃ t o, Steps p.tables e below (T733.setTop (mkF m 111 #[.val (.ref q1), .val (.int z1), .val (.int (8 : Int32)), .val (.int (7 : Int32))] [(.int (7 : Int32)), (.ref q1)])) t ∧ _
    have F738 := (Exa.wr W733 (Exa.wr W727 (Exa.wr W721 (Exa.wr W714 (Exa.keep (Exa.ext E701 (Exa.wr W698 (Exa.wr W692 (Exa.wr W686 (Exa.wr W679 (Exa.keep (Exa.ext E666 (Exa.wr W663 (Exa.wr W657 (Exa.wr W651 (Exa.wr W644 (Exa.keep (Exa.ext E631 (Exa.wr W628 (Exa.wr W622 (Exa.wr W616 (Exa.wr W609 (Exa.keep (Exa.ext E596 (Exa.wr W593 (Exa.wr W587 (Exa.wr W581 (Exa.wr W574 (Exa.keep (Exa.ext E561 (Exa.wr W558 (Exa.wr W552 (Exa.wr W546 (Exa.wr W539 (Exa.keep (Exa.ext E526 (Exa.wr W523 (Exa.wr W517 (Exa.wr W510 (Exa.wr W501 (Exa.keep (Exa.ext E485 (Exa.wr W479 (Exa.wr W466 (Exa.wr W454 (Exa.wr W442 (Exa.keep (Exa.ext E429 (Exa.wr W426 F424)) Kp433)))))) Kp490)))))) Kp531)))))) Kp566)))))) Kp601)))))) Kp636)))))) Kp671)))))) Kp706)))))
    have F739 := (Fld.other W733 (Fld.other W727 (Fld.other W721 F716 (Or.inl ne457)) (Or.inl ne469)) (Or.inl ne482))
    have F740 := (Fld.other W733 (Fld.other W727 F722 (Or.inl ne469)) (Or.inl ne482))
    have F741 := (Fld.other W733 F728 (Or.inl ne482))
    have F742 := (Arv.other (Arv.other V721 W727 ne505) W733 ne506)
    have F743 := (Arv.other V727 W733 ne513)
    have F744 := (Old.wr (Old.wr (Old.wr (Old.wr (Old.keep F703 Kp706 (allS ge704 all0)) W714 ge443) W721 ge455) W727 ge467) W733 ge480)
    have zl745 : n0 ≤ h733.size := by omega
    obtain ⟨cq746, q746, q746'⟩ := F738.cell
    obtain ⟨_, _, ⟨T746, L746, k746, n746⟩, -, X746, ⟨Lc746, hQ746, l746, y746, z746⟩, st746⟩ := X733.privateBack hx (y := (⟨"com/example/holdback/holdback/sim/EventQueue", "play", "(I)V"⟩ : MethodName)) hown (mvT hZ w_55) (mvT hZ w_56) (mvT hZ (own_selp (y := (⟨"com/example/holdback/holdback/sim/EventQueue", "play", "(I)V"⟩ : MethodName)) w_75 rfl w_57 w_56 (by decide))) (Cond.privateMethod_at (mvP hZ w_57 (args := #[]))) (mvT hZ w_58) (by decide) (backOf (W := 0) (rmPlay l Z a0 hw [] q1 b415 b419 b423 k415 k419 k423 ([(.double (9218868437227405312 : UInt64)), (.double (9218868437227405312 : UInt64)), (.double (9218868437227405312 : UInt64)), (.double (9218868437227405312 : UInt64)), (.double (9218868437227405312 : UInt64)), (.double (9218868437227405312 : UInt64)), (.double (9218868437227405312 : UInt64)), (.double (9218868437227405312 : UInt64))]) ([(.long (9223372036854775807 : Int64)), (.long (9223372036854775807 : Int64)), (.long (9223372036854775807 : Int64)), (.long (9223372036854775807 : Int64)), (.long (9223372036854775807 : Int64)), (.long (9223372036854775807 : Int64)), (.long (9223372036854775807 : Int64)), (.long (9223372036854775807 : Int64))]) ([(.int (0 : Int32)), (.int (0 : Int32)), (.int (0 : Int32)), (.int (0 : Int32)), (.int (0 : Int32)), (.int (0 : Int32)), (.int (0 : Int32)), (.int (0 : Int32)), (.int (0 : Int32)), (.int (1 : Int32)), (.int (2 : Int32)), (.int (3 : Int32)), (.int (4 : Int32)), (.int (5 : Int32)), (.int (6 : Int32)), (.int (7 : Int32))]) (8 : Int32) (16 : Int32) (7 : Int32) h733 n0 zl745 F738 F739 F740 F741 F742 F743 V733 F744 Gi734 Gi735 Gi736 hN737 (by decide) (by decide) (by omega) (by omega) (by omega) (by omega)) hZ w_58 w_6 (by decide) (by decide)) (g := (mkF m 111 #[.val (.ref q1), .val (.int z1), .val (.int (8 : Int32)), .val (.int (7 : Int32))] [(.int (7 : Int32)), (.ref q1)])) rfl (by rw [hml]; rfl) (Steps.refl _) (a := q1) (by rw [e733]; exact q746) q746' (argsL := [(.int (7 : Int32))]) (rest := []) (lenOf pd__28I_29V rfl) rfl (by show 2 * 0 + _ ≤ _; exact Nat.le_of_eq rfl) (hb hby d2_111) (fun _ _ => ⟨rfl, e733, (by decide : 36 + 0 ≤ _), (by decide : 280 + 0 ≤ _)⟩)
    dsimp only [Pt.U, Pt.locs, Pt.cells, Pt.slots] at X746 l746 y746 z746 st746 hQ746
    rw [l746, y746, z746] at X746
    obtain ⟨wl2_746, rfl, Nq746, Kp746, G746_0, H746_0⟩ := hQ746
    have N746 := Fr.app N733 Nq746
    refine own_goT st746 ?_
    have le_746 : h733.size ≤ T746.heap.size := Kp746.1
    have K746 : Keep h0 T746.heap [q1] := Keep.trans K733 Kp746 (allS (Or.inr sz481) all0)
    refine own_go (fun _ => XS.iinc X746.here hx rfl (hb hby d2_114) rfl (l' := #[.val (.ref q1), .val (.int z1), .val (.int (8 : Int32)), .val (.int (6 : Int32))]) rfl) ?_
    refine own_go (fun _ => XS.goto X746.here hx rfl (pc0 := 117) (pc' := 105) rfl (hb hby d2_117) (by decide) (by decide)) ?_
    refine own_go (fun _ => XS.iloadN X746.here hx rfl (hb hby d2_105) rfl) ?_
    show ∃ t o, Steps p.tables e below (T746.setTop (mkF m 106 #[.val (.ref q1), .val (.int z1), .val (.int (8 : Int32)), .val (.int (6 : Int32))] [(.int (6 : Int32))])) t ∧ _
    refine own_go (fun _ => XS.ifNo X746.here hx rfl (hb hby d2_106) rfl ((if0 _ _).trans (tlt (by decide : (0 : Int32) < (6 : Int32))).2.2.2)) ?_
    refine own_go (fun _ => XS.aloadN X746.here hx rfl (hb hby d2_109) rfl rfl) ?_
    refine own_go (fun _ => XS.iloadN X746.here hx rfl (hb hby d2_110) rfl) ?_
    show ∃ t o, Steps p.tables e below (T746.setTop (mkF m 111 #[.val (.ref q1), .val (.int z1), .val (.int (8 : Int32)), .val (.int (6 : Int32))] [(.int (6 : Int32)), (.ref q1)])) t ∧ _
    have F747 := (Exa.keep F738 Kp746)
    have F748 := (Fld.keep F739 Kp746 (ninS ne482 nin0))
    have F749 := (Fld.keep F740 Kp746 (ninS ne482 nin0))
    have F750 := (Fld.keep F741 Kp746 (ninS ne482 nin0))
    have F751 := (Arv.keep F742 Kp746 (ninS ne506 nin0))
    have F752 := (Arv.keep F743 Kp746 (ninS ne513 nin0))
    have F753 := (Old.keep F744 Kp746 (allS ge480 all0))
    have zl754 : n0 ≤ T746.heap.size := by omega
    obtain ⟨cq755, q755, q755'⟩ := F747.cell
    obtain ⟨_, _, ⟨T755, L755, k755, n755⟩, -, X755, ⟨Lc755, hQ755, l755, y755, z755⟩, st755⟩ := X746.privateBack hx (y := (⟨"com/example/holdback/holdback/sim/EventQueue", "play", "(I)V"⟩ : MethodName)) hown (mvT hZ w_55) (mvT hZ w_56) (mvT hZ (own_selp (y := (⟨"com/example/holdback/holdback/sim/EventQueue", "play", "(I)V"⟩ : MethodName)) w_75 rfl w_57 w_56 (by decide))) (Cond.privateMethod_at (mvP hZ w_57 (args := #[]))) (mvT hZ w_58) (by decide) (backOf (W := 0) (rmPlay l Z a0 hw [] q1 b415 b419 b423 k415 k419 k423 ([(.double (9218868437227405312 : UInt64)), (.double (9218868437227405312 : UInt64)), (.double (9218868437227405312 : UInt64)), (.double (9218868437227405312 : UInt64)), (.double (9218868437227405312 : UInt64)), (.double (9218868437227405312 : UInt64)), (.double (9218868437227405312 : UInt64)), (.double (9218868437227405312 : UInt64))]) ([(.long (9223372036854775807 : Int64)), (.long (9223372036854775807 : Int64)), (.long (9223372036854775807 : Int64)), (.long (9223372036854775807 : Int64)), (.long (9223372036854775807 : Int64)), (.long (9223372036854775807 : Int64)), (.long (9223372036854775807 : Int64)), (.long (9223372036854775807 : Int64))]) wl2_746 (8 : Int32) (16 : Int32) (6 : Int32) T746.heap n0 zl754 F747 F748 F749 F750 F751 F752 G746_0 F753 Gi734 Gi735 H746_0 hN737 (by decide) (by decide) (by omega) (by omega) (by omega) (by omega)) hZ w_58 w_6 (by decide) (by decide)) (g := (mkF m 111 #[.val (.ref q1), .val (.int z1), .val (.int (8 : Int32)), .val (.int (6 : Int32))] [(.int (6 : Int32)), (.ref q1)])) rfl (by rw [hml]; rfl) (Steps.refl _) (a := q1) q755 q755' (argsL := [(.int (6 : Int32))]) (rest := []) (lenOf pd__28I_29V rfl) rfl (by show 2 * 0 + _ ≤ _; exact Nat.le_of_eq rfl) (hb hby d2_111) (fun _ _ => ⟨rfl, rfl, (by decide : 36 + 0 ≤ _), (by decide : 280 + 0 ≤ _)⟩)
    dsimp only [Pt.U, Pt.locs, Pt.cells, Pt.slots] at X755 l755 y755 z755 st755 hQ755
    rw [l755, y755, z755] at X755
    obtain ⟨wl2_755, rfl, Nq755, Kp755, G755_0, H755_0⟩ := hQ755
    have N755 := Fr.app N746 Nq755
    refine own_goT st755 ?_
    have le_755 : T746.heap.size ≤ T755.heap.size := Kp755.1
    have K755 : Keep h0 T755.heap [q1] := Keep.trans K746 Kp755 (allS (Or.inr sz481) all0)
    refine own_go (fun _ => XS.iinc X755.here hx rfl (hb hby d2_114) rfl (l' := #[.val (.ref q1), .val (.int z1), .val (.int (8 : Int32)), .val (.int (5 : Int32))]) rfl) ?_
    refine own_go (fun _ => XS.goto X755.here hx rfl (pc0 := 117) (pc' := 105) rfl (hb hby d2_117) (by decide) (by decide)) ?_
    refine own_go (fun _ => XS.iloadN X755.here hx rfl (hb hby d2_105) rfl) ?_
    show ∃ t o, Steps p.tables e below (T755.setTop (mkF m 106 #[.val (.ref q1), .val (.int z1), .val (.int (8 : Int32)), .val (.int (5 : Int32))] [(.int (5 : Int32))])) t ∧ _
    refine own_go (fun _ => XS.ifNo X755.here hx rfl (hb hby d2_106) rfl ((if0 _ _).trans (tlt (by decide : (0 : Int32) < (5 : Int32))).2.2.2)) ?_
    refine own_go (fun _ => XS.aloadN X755.here hx rfl (hb hby d2_109) rfl rfl) ?_
    refine own_go (fun _ => XS.iloadN X755.here hx rfl (hb hby d2_110) rfl) ?_
    show ∃ t o, Steps p.tables e below (T755.setTop (mkF m 111 #[.val (.ref q1), .val (.int z1), .val (.int (8 : Int32)), .val (.int (5 : Int32))] [(.int (5 : Int32)), (.ref q1)])) t ∧ _
    have F756 := (Exa.keep F747 Kp755)
    have F757 := (Fld.keep F748 Kp755 (ninS ne482 nin0))
    have F758 := (Fld.keep F749 Kp755 (ninS ne482 nin0))
    have F759 := (Fld.keep F750 Kp755 (ninS ne482 nin0))
    have F760 := (Arv.keep F751 Kp755 (ninS ne506 nin0))
    have F761 := (Arv.keep F752 Kp755 (ninS ne513 nin0))
    have F762 := (Old.keep F753 Kp755 (allS ge480 all0))
    have zl763 : n0 ≤ T755.heap.size := by omega
    obtain ⟨cq764, q764, q764'⟩ := F756.cell
    obtain ⟨_, _, ⟨T764, L764, k764, n764⟩, -, X764, ⟨Lc764, hQ764, l764, y764, z764⟩, st764⟩ := X755.privateBack hx (y := (⟨"com/example/holdback/holdback/sim/EventQueue", "play", "(I)V"⟩ : MethodName)) hown (mvT hZ w_55) (mvT hZ w_56) (mvT hZ (own_selp (y := (⟨"com/example/holdback/holdback/sim/EventQueue", "play", "(I)V"⟩ : MethodName)) w_75 rfl w_57 w_56 (by decide))) (Cond.privateMethod_at (mvP hZ w_57 (args := #[]))) (mvT hZ w_58) (by decide) (backOf (W := 0) (rmPlay l Z a0 hw [] q1 b415 b419 b423 k415 k419 k423 ([(.double (9218868437227405312 : UInt64)), (.double (9218868437227405312 : UInt64)), (.double (9218868437227405312 : UInt64)), (.double (9218868437227405312 : UInt64)), (.double (9218868437227405312 : UInt64)), (.double (9218868437227405312 : UInt64)), (.double (9218868437227405312 : UInt64)), (.double (9218868437227405312 : UInt64))]) ([(.long (9223372036854775807 : Int64)), (.long (9223372036854775807 : Int64)), (.long (9223372036854775807 : Int64)), (.long (9223372036854775807 : Int64)), (.long (9223372036854775807 : Int64)), (.long (9223372036854775807 : Int64)), (.long (9223372036854775807 : Int64)), (.long (9223372036854775807 : Int64))]) wl2_755 (8 : Int32) (16 : Int32) (5 : Int32) T755.heap n0 zl763 F756 F757 F758 F759 F760 F761 G755_0 F762 Gi734 Gi735 H755_0 hN737 (by decide) (by decide) (by omega) (by omega) (by omega) (by omega)) hZ w_58 w_6 (by decide) (by decide)) (g := (mkF m 111 #[.val (.ref q1), .val (.int z1), .val (.int (8 : Int32)), .val (.int (5 : Int32))] [(.int (5 : Int32)), (.ref q1)])) rfl (by rw [hml]; rfl) (Steps.refl _) (a := q1) q764 q764' (argsL := [(.int (5 : Int32))]) (rest := []) (lenOf pd__28I_29V rfl) rfl (by show 2 * 0 + _ ≤ _; exact Nat.le_of_eq rfl) (hb hby d2_111) (fun _ _ => ⟨rfl, rfl, (by decide : 36 + 0 ≤ _), (by decide : 280 + 0 ≤ _)⟩)
    dsimp only [Pt.U, Pt.locs, Pt.cells, Pt.slots] at X764 l764 y764 z764 st764 hQ764
    rw [l764, y764, z764] at X764
    obtain ⟨wl2_764, rfl, Nq764, Kp764, G764_0, H764_0⟩ := hQ764
    have N764 := Fr.app N755 Nq764
    refine own_goT st764 ?_
    have le_764 : T755.heap.size ≤ T764.heap.size := Kp764.1
    have K764 : Keep h0 T764.heap [q1] := Keep.trans K755 Kp764 (allS (Or.inr sz481) all0)
    refine own_go (fun _ => XS.iinc X764.here hx rfl (hb hby d2_114) rfl (l' := #[.val (.ref q1), .val (.int z1), .val (.int (8 : Int32)), .val (.int (4 : Int32))]) rfl) ?_
    refine own_go (fun _ => XS.goto X764.here hx rfl (pc0 := 117) (pc' := 105) rfl (hb hby d2_117) (by decide) (by decide)) ?_
    refine own_go (fun _ => XS.iloadN X764.here hx rfl (hb hby d2_105) rfl) ?_
    show ∃ t o, Steps p.tables e below (T764.setTop (mkF m 106 #[.val (.ref q1), .val (.int z1), .val (.int (8 : Int32)), .val (.int (4 : Int32))] [(.int (4 : Int32))])) t ∧ _
    refine own_go (fun _ => XS.ifNo X764.here hx rfl (hb hby d2_106) rfl ((if0 _ _).trans (tlt (by decide : (0 : Int32) < (4 : Int32))).2.2.2)) ?_
    refine own_go (fun _ => XS.aloadN X764.here hx rfl (hb hby d2_109) rfl rfl) ?_
    refine own_go (fun _ => XS.iloadN X764.here hx rfl (hb hby d2_110) rfl) ?_
    show ∃ t o, Steps p.tables e below (T764.setTop (mkF m 111 #[.val (.ref q1), .val (.int z1), .val (.int (8 : Int32)), .val (.int (4 : Int32))] [(.int (4 : Int32)), (.ref q1)])) t ∧ _
    have F765 := (Exa.keep F756 Kp764)
    have F766 := (Fld.keep F757 Kp764 (ninS ne482 nin0))
    have F767 := (Fld.keep F758 Kp764 (ninS ne482 nin0))
    have F768 := (Fld.keep F759 Kp764 (ninS ne482 nin0))
    have F769 := (Arv.keep F760 Kp764 (ninS ne506 nin0))
    have F770 := (Arv.keep F761 Kp764 (ninS ne513 nin0))
    have F771 := (Old.keep F762 Kp764 (allS ge480 all0))
    have zl772 : n0 ≤ T764.heap.size := by omega
    obtain ⟨cq773, q773, q773'⟩ := F765.cell
    obtain ⟨_, _, ⟨T773, L773, k773, n773⟩, -, X773, ⟨Lc773, hQ773, l773, y773, z773⟩, st773⟩ := X764.privateBack hx (y := (⟨"com/example/holdback/holdback/sim/EventQueue", "play", "(I)V"⟩ : MethodName)) hown (mvT hZ w_55) (mvT hZ w_56) (mvT hZ (own_selp (y := (⟨"com/example/holdback/holdback/sim/EventQueue", "play", "(I)V"⟩ : MethodName)) w_75 rfl w_57 w_56 (by decide))) (Cond.privateMethod_at (mvP hZ w_57 (args := #[]))) (mvT hZ w_58) (by decide) (backOf (W := 0) (rmPlay l Z a0 hw [] q1 b415 b419 b423 k415 k419 k423 ([(.double (9218868437227405312 : UInt64)), (.double (9218868437227405312 : UInt64)), (.double (9218868437227405312 : UInt64)), (.double (9218868437227405312 : UInt64)), (.double (9218868437227405312 : UInt64)), (.double (9218868437227405312 : UInt64)), (.double (9218868437227405312 : UInt64)), (.double (9218868437227405312 : UInt64))]) ([(.long (9223372036854775807 : Int64)), (.long (9223372036854775807 : Int64)), (.long (9223372036854775807 : Int64)), (.long (9223372036854775807 : Int64)), (.long (9223372036854775807 : Int64)), (.long (9223372036854775807 : Int64)), (.long (9223372036854775807 : Int64)), (.long (9223372036854775807 : Int64))]) wl2_764 (8 : Int32) (16 : Int32) (4 : Int32) T764.heap n0 zl772 F765 F766 F767 F768 F769 F770 G764_0 F771 Gi734 Gi735 H764_0 hN737 (by decide) (by decide) (by omega) (by omega) (by omega) (by omega)) hZ w_58 w_6 (by decide) (by decide)) (g := (mkF m 111 #[.val (.ref q1), .val (.int z1), .val (.int (8 : Int32)), .val (.int (4 : Int32))] [(.int (4 : Int32)), (.ref q1)])) rfl (by rw [hml]; rfl) (Steps.refl _) (a := q1) q773 q773' (argsL := [(.int (4 : Int32))]) (rest := []) (lenOf pd__28I_29V rfl) rfl (by show 2 * 0 + _ ≤ _; exact Nat.le_of_eq rfl) (hb hby d2_111) (fun _ _ => ⟨rfl, rfl, (by decide : 36 + 0 ≤ _), (by decide : 280 + 0 ≤ _)⟩)
    dsimp only [Pt.U, Pt.locs, Pt.cells, Pt.slots] at X773 l773 y773 z773 st773 hQ773
    rw [l773, y773, z773] at X773
    obtain ⟨wl2_773, rfl, Nq773, Kp773, G773_0, H773_0⟩ := hQ773
    have N773 := Fr.app N764 Nq773
    refine own_goT st773 ?_
    have le_773 : T764.heap.size ≤ T773.heap.size := Kp773.1
    have K773 : Keep h0 T773.heap [q1] := Keep.trans K764 Kp773 (allS (Or.inr sz481) all0)
    refine own_go (fun _ => XS.iinc X773.here hx rfl (hb hby d2_114) rfl (l' := #[.val (.ref q1), .val (.int z1), .val (.int (8 : Int32)), .val (.int (3 : Int32))]) rfl) ?_
    refine own_go (fun _ => XS.goto X773.here hx rfl (pc0 := 117) (pc' := 105) rfl (hb hby d2_117) (by decide) (by decide)) ?_
    refine own_go (fun _ => XS.iloadN X773.here hx rfl (hb hby d2_105) rfl) ?_
    show ∃ t o, Steps p.tables e below (T773.setTop (mkF m 106 #[.val (.ref q1), .val (.int z1), .val (.int (8 : Int32)), .val (.int (3 : Int32))] [(.int (3 : Int32))])) t ∧ _
    refine own_go (fun _ => XS.ifNo X773.here hx rfl (hb hby d2_106) rfl ((if0 _ _).trans (tlt (by decide : (0 : Int32) < (3 : Int32))).2.2.2)) ?_
    refine own_go (fun _ => XS.aloadN X773.here hx rfl (hb hby d2_109) rfl rfl) ?_
    refine own_go (fun _ => XS.iloadN X773.here hx rfl (hb hby d2_110) rfl) ?_
    show ∃ t o, Steps p.tables e below (T773.setTop (mkF m 111 #[.val (.ref q1), .val (.int z1), .val (.int (8 : Int32)), .val (.int (3 : Int32))] [(.int (3 : Int32)), (.ref q1)])) t ∧ _
    have F774 := (Exa.keep F765 Kp773)
    have F775 := (Fld.keep F766 Kp773 (ninS ne482 nin0))
    have F776 := (Fld.keep F767 Kp773 (ninS ne482 nin0))
    have F777 := (Fld.keep F768 Kp773 (ninS ne482 nin0))
    have F778 := (Arv.keep F769 Kp773 (ninS ne506 nin0))
    have F779 := (Arv.keep F770 Kp773 (ninS ne513 nin0))
    have F780 := (Old.keep F771 Kp773 (allS ge480 all0))
    have zl781 : n0 ≤ T773.heap.size := by omega
    obtain ⟨cq782, q782, q782'⟩ := F774.cell
    obtain ⟨_, _, ⟨T782, L782, k782, n782⟩, -, X782, ⟨Lc782, hQ782, l782, y782, z782⟩, st782⟩ := X773.privateBack hx (y := (⟨"com/example/holdback/holdback/sim/EventQueue", "play", "(I)V"⟩ : MethodName)) hown (mvT hZ w_55) (mvT hZ w_56) (mvT hZ (own_selp (y := (⟨"com/example/holdback/holdback/sim/EventQueue", "play", "(I)V"⟩ : MethodName)) w_75 rfl w_57 w_56 (by decide))) (Cond.privateMethod_at (mvP hZ w_57 (args := #[]))) (mvT hZ w_58) (by decide) (backOf (W := 0) (rmPlay l Z a0 hw [] q1 b415 b419 b423 k415 k419 k423 ([(.double (9218868437227405312 : UInt64)), (.double (9218868437227405312 : UInt64)), (.double (9218868437227405312 : UInt64)), (.double (9218868437227405312 : UInt64)), (.double (9218868437227405312 : UInt64)), (.double (9218868437227405312 : UInt64)), (.double (9218868437227405312 : UInt64)), (.double (9218868437227405312 : UInt64))]) ([(.long (9223372036854775807 : Int64)), (.long (9223372036854775807 : Int64)), (.long (9223372036854775807 : Int64)), (.long (9223372036854775807 : Int64)), (.long (9223372036854775807 : Int64)), (.long (9223372036854775807 : Int64)), (.long (9223372036854775807 : Int64)), (.long (9223372036854775807 : Int64))]) wl2_773 (8 : Int32) (16 : Int32) (3 : Int32) T773.heap n0 zl781 F774 F775 F776 F777 F778 F779 G773_0 F780 Gi734 Gi735 H773_0 hN737 (by decide) (by decide) (by omega) (by omega) (by omega) (by omega)) hZ w_58 w_6 (by decide) (by decide)) (g := (mkF m 111 #[.val (.ref q1), .val (.int z1), .val (.int (8 : Int32)), .val (.int (3 : Int32))] [(.int (3 : Int32)), (.ref q1)])) rfl (by rw [hml]; rfl) (Steps.refl _) (a := q1) q782 q782' (argsL := [(.int (3 : Int32))]) (rest := []) (lenOf pd__28I_29V rfl) rfl (by show 2 * 0 + _ ≤ _; exact Nat.le_of_eq rfl) (hb hby d2_111) (fun _ _ => ⟨rfl, rfl, (by decide : 36 + 0 ≤ _), (by decide : 280 + 0 ≤ _)⟩)
    dsimp only [Pt.U, Pt.locs, Pt.cells, Pt.slots] at X782 l782 y782 z782 st782 hQ782
    rw [l782, y782, z782] at X782
    obtain ⟨wl2_782, rfl, Nq782, Kp782, G782_0, H782_0⟩ := hQ782
    have N782 := Fr.app N773 Nq782
    refine own_goT st782 ?_
    have le_782 : T773.heap.size ≤ T782.heap.size := Kp782.1
    have K782 : Keep h0 T782.heap [q1] := Keep.trans K773 Kp782 (allS (Or.inr sz481) all0)
    refine own_go (fun _ => XS.iinc X782.here hx rfl (hb hby d2_114) rfl (l' := #[.val (.ref q1), .val (.int z1), .val (.int (8 : Int32)), .val (.int (2 : Int32))]) rfl) ?_
    refine own_go (fun _ => XS.goto X782.here hx rfl (pc0 := 117) (pc' := 105) rfl (hb hby d2_117) (by decide) (by decide)) ?_
    refine own_go (fun _ => XS.iloadN X782.here hx rfl (hb hby d2_105) rfl) ?_
    show ∃ t o, Steps p.tables e below (T782.setTop (mkF m 106 #[.val (.ref q1), .val (.int z1), .val (.int (8 : Int32)), .val (.int (2 : Int32))] [(.int (2 : Int32))])) t ∧ _
    refine own_go (fun _ => XS.ifNo X782.here hx rfl (hb hby d2_106) rfl ((if0 _ _).trans (tlt (by decide : (0 : Int32) < (2 : Int32))).2.2.2)) ?_
    refine own_go (fun _ => XS.aloadN X782.here hx rfl (hb hby d2_109) rfl rfl) ?_
    refine own_go (fun _ => XS.iloadN X782.here hx rfl (hb hby d2_110) rfl) ?_
    show ∃ t o, Steps p.tables e below (T782.setTop (mkF m 111 #[.val (.ref q1), .val (.int z1), .val (.int (8 : Int32)), .val (.int (2 : Int32))] [(.int (2 : Int32)), (.ref q1)])) t ∧ _
    have F783 := (Exa.keep F774 Kp782)
    have F784 := (Fld.keep F775 Kp782 (ninS ne482 nin0))
    have F785 := (Fld.keep F776 Kp782 (ninS ne482 nin0))
    have F786 := (Fld.keep F777 Kp782 (ninS ne482 nin0))
    have F787 := (Arv.keep F778 Kp782 (ninS ne506 nin0))
    have F788 := (Arv.keep F779 Kp782 (ninS ne513 nin0))
    have F789 := (Old.keep F780 Kp782 (allS ge480 all0))
    have zl790 : n0 ≤ T782.heap.size := by omega
    obtain ⟨cq791, q791, q791'⟩ := F783.cell
    obtain ⟨_, _, ⟨T791, L791, k791, n791⟩, -, X791, ⟨Lc791, hQ791, l791, y791, z791⟩, st791⟩ := X782.privateBack hx (y := (⟨"com/example/holdback/holdback/sim/EventQueue", "play", "(I)V"⟩ : MethodName)) hown (mvT hZ w_55) (mvT hZ w_56) (mvT hZ (own_selp (y := (⟨"com/example/holdback/holdback/sim/EventQueue", "play", "(I)V"⟩ : MethodName)) w_75 rfl w_57 w_56 (by decide))) (Cond.privateMethod_at (mvP hZ w_57 (args := #[]))) (mvT hZ w_58) (by decide) (backOf (W := 0) (rmPlay l Z a0 hw [] q1 b415 b419 b423 k415 k419 k423 ([(.double (9218868437227405312 : UInt64)), (.double (9218868437227405312 : UInt64)), (.double (9218868437227405312 : UInt64)), (.double (9218868437227405312 : UInt64)), (.double (9218868437227405312 : UInt64)), (.double (9218868437227405312 : UInt64)), (.double (9218868437227405312 : UInt64)), (.double (9218868437227405312 : UInt64))]) ([(.long (9223372036854775807 : Int64)), (.long (9223372036854775807 : Int64)), (.long (9223372036854775807 : Int64)), (.long (9223372036854775807 : Int64)), (.long (9223372036854775807 : Int64)), (.long (9223372036854775807 : Int64)), (.long (9223372036854775807 : Int64)), (.long (9223372036854775807 : Int64))]) wl2_782 (8 : Int32) (16 : Int32) (2 : Int32) T782.heap n0 zl790 F783 F784 F785 F786 F787 F788 G782_0 F789 Gi734 Gi735 H782_0 hN737 (by decide) (by decide) (by omega) (by omega) (by omega) (by omega)) hZ w_58 w_6 (by decide) (by decide)) (g := (mkF m 111 #[.val (.ref q1), .val (.int z1), .val (.int (8 : Int32)), .val (.int (2 : Int32))] [(.int (2 : Int32)), (.ref q1)])) rfl (by rw [hml]; rfl) (Steps.refl _) (a := q1) q791 q791' (argsL := [(.int (2 : Int32))]) (rest := []) (lenOf pd__28I_29V rfl) rfl (by show 2 * 0 + _ ≤ _; exact Nat.le_of_eq rfl) (hb hby d2_111) (fun _ _ => ⟨rfl, rfl, (by decide : 36 + 0 ≤ _), (by decide : 280 + 0 ≤ _)⟩)
    dsimp only [Pt.U, Pt.locs, Pt.cells, Pt.slots] at X791 l791 y791 z791 st791 hQ791
    rw [l791, y791, z791] at X791
    obtain ⟨wl2_791, rfl, Nq791, Kp791, G791_0, H791_0⟩ := hQ791
    have N791 := Fr.app N782 Nq791
    refine own_goT st791 ?_
    have le_791 : T782.heap.size ≤ T791.heap.size := Kp791.1
    have K791 : Keep h0 T791.heap [q1] := Keep.trans K782 Kp791 (allS (Or.inr sz481) all0)
    refine own_go (fun _ => XS.iinc X791.here hx rfl (hb hby d2_114) rfl (l' := #[.val (.ref q1), .val (.int z1), .val (.int (8 : Int32)), .val (.int (1 : Int32))]) rfl) ?_
    refine own_go (fun _ => XS.goto X791.here hx rfl (pc0 := 117) (pc' := 105) rfl (hb hby d2_117) (by decide) (by decide)) ?_
    refine own_go (fun _ => XS.iloadN X791.here hx rfl (hb hby d2_105) rfl) ?_
    show ∃ t o, Steps p.tables e below (T791.setTop (mkF m 106 #[.val (.ref q1), .val (.int z1), .val (.int (8 : Int32)), .val (.int (1 : Int32))] [(.int (1 : Int32))])) t ∧ _
    refine own_go (fun _ => XS.ifNo X791.here hx rfl (hb hby d2_106) rfl ((if0 _ _).trans (tlt (by decide : (0 : Int32) < (1 : Int32))).2.2.2)) ?_
    refine own_go (fun _ => XS.aloadN X791.here hx rfl (hb hby d2_109) rfl rfl) ?_
    refine own_go (fun _ => XS.iloadN X791.here hx rfl (hb hby d2_110) rfl) ?_
    show ∃ t o, Steps p.tables e below (T791.setTop (mkF m 111 #[.val (.ref q1), .val (.int z1), .val (.int (8 : Int32)), .val (.int (1 : Int32))] [(.int (1 : Int32)), (.ref q1)])) t ∧ _
    have F792 := (Exa.keep F783 Kp791)
    have F793 := (Fld.keep F784 Kp791 (ninS ne482 nin0))
    have F794 := (Fld.keep F785 Kp791 (ninS ne482 nin0))
    have F795 := (Fld.keep F786 Kp791 (ninS ne482 nin0))
    have F796 := (Arv.keep F787 Kp791 (ninS ne506 nin0))
    have F797 := (Arv.keep F788 Kp791 (ninS ne513 nin0))
    have F798 := (Old.keep F789 Kp791 (allS ge480 all0))
    have zl799 : n0 ≤ T791.heap.size := by omega
    obtain ⟨cq800, q800, q800'⟩ := F792.cell
    obtain ⟨_, _, ⟨T800, L800, k800, n800⟩, -, X800, ⟨Lc800, hQ800, l800, y800, z800⟩, st800⟩ := X791.privateBack hx (y := (⟨"com/example/holdback/holdback/sim/EventQueue", "play", "(I)V"⟩ : MethodName)) hown (mvT hZ w_55) (mvT hZ w_56) (mvT hZ (own_selp (y := (⟨"com/example/holdback/holdback/sim/EventQueue", "play", "(I)V"⟩ : MethodName)) w_75 rfl w_57 w_56 (by decide))) (Cond.privateMethod_at (mvP hZ w_57 (args := #[]))) (mvT hZ w_58) (by decide) (backOf (W := 0) (rmPlay l Z a0 hw [] q1 b415 b419 b423 k415 k419 k423 ([(.double (9218868437227405312 : UInt64)), (.double (9218868437227405312 : UInt64)), (.double (9218868437227405312 : UInt64)), (.double (9218868437227405312 : UInt64)), (.double (9218868437227405312 : UInt64)), (.double (9218868437227405312 : UInt64)), (.double (9218868437227405312 : UInt64)), (.double (9218868437227405312 : UInt64))]) ([(.long (9223372036854775807 : Int64)), (.long (9223372036854775807 : Int64)), (.long (9223372036854775807 : Int64)), (.long (9223372036854775807 : Int64)), (.long (9223372036854775807 : Int64)), (.long (9223372036854775807 : Int64)), (.long (9223372036854775807 : Int64)), (.long (9223372036854775807 : Int64))]) wl2_791 (8 : Int32) (16 : Int32) (1 : Int32) T791.heap n0 zl799 F792 F793 F794 F795 F796 F797 G791_0 F798 Gi734 Gi735 H791_0 hN737 (by decide) (by decide) (by omega) (by omega) (by omega) (by omega)) hZ w_58 w_6 (by decide) (by decide)) (g := (mkF m 111 #[.val (.ref q1), .val (.int z1), .val (.int (8 : Int32)), .val (.int (1 : Int32))] [(.int (1 : Int32)), (.ref q1)])) rfl (by rw [hml]; rfl) (Steps.refl _) (a := q1) q800 q800' (argsL := [(.int (1 : Int32))]) (rest := []) (lenOf pd__28I_29V rfl) rfl (by show 2 * 0 + _ ≤ _; exact Nat.le_of_eq rfl) (hb hby d2_111) (fun _ _ => ⟨rfl, rfl, (by decide : 36 + 0 ≤ _), (by decide : 280 + 0 ≤ _)⟩)
    dsimp only [Pt.U, Pt.locs, Pt.cells, Pt.slots] at X800 l800 y800 z800 st800 hQ800
    rw [l800, y800, z800] at X800
    obtain ⟨wl2_800, rfl, Nq800, Kp800, G800_0, H800_0⟩ := hQ800
    have N800 := Fr.app N791 Nq800
    refine own_goT st800 ?_
    have le_800 : T791.heap.size ≤ T800.heap.size := Kp800.1
    have K800 : Keep h0 T800.heap [q1] := Keep.trans K791 Kp800 (allS (Or.inr sz481) all0)
    refine own_go (fun _ => XS.iinc X800.here hx rfl (hb hby d2_114) rfl (l' := #[.val (.ref q1), .val (.int z1), .val (.int (8 : Int32)), .val (.int (0 : Int32))]) rfl) ?_
    refine own_go (fun _ => XS.goto X800.here hx rfl (pc0 := 117) (pc' := 105) rfl (hb hby d2_117) (by decide) (by decide)) ?_
    refine own_go (fun _ => XS.iloadN X800.here hx rfl (hb hby d2_105) rfl) ?_
    show ∃ t o, Steps p.tables e below (T800.setTop (mkF m 106 #[.val (.ref q1), .val (.int z1), .val (.int (8 : Int32)), .val (.int (0 : Int32))] [(.int (0 : Int32))])) t ∧ _
    refine own_go (fun _ => XS.ifYes X800.here hx rfl (pc0 := 106) (pc' := 120) rfl (hb hby d2_106) rfl ((if0 _ _).trans (flt (by decide : ¬ ((0 : Int32) < (0 : Int32)))).2.2.2) (by decide) (by decide)) ?_
    have lt801 : (b411 : Nat) < b429 := by omega
    have lt802 : (b415 : Nat) < b429 := by omega
    have lt803 : (b419 : Nat) < b429 := by omega
    have lt804 : (b423 : Nat) < b429 := by omega
    have lt805 : (ac_433 : Nat) < b526 := by omega
    have lt806 : (ac_433 : Nat) < b561 := by omega
    have lt807 : (ac_433 : Nat) < b596 := by omega
    have lt808 : (ac_433 : Nat) < b631 := by omega
    have lt809 : (ac_433 : Nat) < b666 := by omega
    have lt810 : (ac_433 : Nat) < b701 := by omega
    have F811 := (own_S.keep1 (own_S.keep1 (own_S.keep1 (own_S.keep1 (own_S.keep1 (own_S.keep1 (own_S.keep1 (own_S.wr (own_S.wr (own_S.wr (own_S.wr (own_S.keep1 (own_S.ext (own_S.wr (own_S.wr (own_S.wr (own_S.wr (own_S.keep1 (own_S.ext (own_S.wr (own_S.wr (own_S.wr (own_S.wr (own_S.keep1 (own_S.ext (own_S.wr (own_S.wr (own_S.wr (own_S.wr (own_S.keep1 (own_S.ext (own_S.wr (own_S.wr (own_S.wr (own_S.wr (own_S.keep1 (own_S.ext (own_S.wr (own_S.wr (own_S.wr (own_S.wr (own_S.keep1 (own_S.ext (own_S.wr (own_S.wr (own_S.wr (own_S.wr (own_S.keep1 (own_S.ext (own_S.wr (own_S.wr (own_S.wr (own_S.wr cs436 W442 (Or.inl lt801)) W454 (Or.inl lt802)) W466 (Or.inl lt803)) W479 (Or.inl lt804)) E485) Kp490 (allS (P := fun y : Nat => y < b429 ∨ ac_433 < y) (Or.inr lt486) all0)) W501 (Or.inl lt801)) W510 (Or.inl lt802)) W517 (Or.inl lt803)) W523 (Or.inl lt804)) E526) Kp531 (allS (P := fun y : Nat => y < b429 ∨ ac_433 < y) (Or.inr lt805) all0)) W539 (Or.inl lt801)) W546 (Or.inl lt802)) W552 (Or.inl lt803)) W558 (Or.inl lt804)) E561) Kp566 (allS (P := fun y : Nat => y < b429 ∨ ac_433 < y) (Or.inr lt806) all0)) W574 (Or.inl lt801)) W581 (Or.inl lt802)) W587 (Or.inl lt803)) W593 (Or.inl lt804)) E596) Kp601 (allS (P := fun y : Nat => y < b429 ∨ ac_433 < y) (Or.inr lt807) all0)) W609 (Or.inl lt801)) W616 (Or.inl lt802)) W622 (Or.inl lt803)) W628 (Or.inl lt804)) E631) Kp636 (allS (P := fun y : Nat => y < b429 ∨ ac_433 < y) (Or.inr lt808) all0)) W644 (Or.inl lt801)) W651 (Or.inl lt802)) W657 (Or.inl lt803)) W663 (Or.inl lt804)) E666) Kp671 (allS (P := fun y : Nat => y < b429 ∨ ac_433 < y) (Or.inr lt809) all0)) W679 (Or.inl lt801)) W686 (Or.inl lt802)) W692 (Or.inl lt803)) W698 (Or.inl lt804)) E701) Kp706 (allS (P := fun y : Nat => y < b429 ∨ ac_433 < y) (Or.inr lt810) all0)) W714 (Or.inl lt801)) W721 (Or.inl lt802)) W727 (Or.inl lt803)) W733 (Or.inl lt804)) Kp746 (allS (P := fun y : Nat => y < b429 ∨ ac_433 < y) (Or.inl lt804) all0)) Kp755 (allS (P := fun y : Nat => y < b429 ∨ ac_433 < y) (Or.inl lt804) all0)) Kp764 (allS (P := fun y : Nat => y < b429 ∨ ac_433 < y) (Or.inl lt804) all0)) Kp773 (allS (P := fun y : Nat => y < b429 ∨ ac_433 < y) (Or.inl lt804) all0)) Kp782 (allS (P := fun y : Nat => y < b429 ∨ ac_433 < y) (Or.inl lt804) all0)) Kp791 (allS (P := fun y : Nat => y < b429 ∨ ac_433 < y) (Or.inl lt804) all0)) Kp800 (allS (P := fun y : Nat => y < b429 ∨ ac_433 < y) (Or.inl lt804) all0))
    have lt812 : (b411 : Nat) < b485 := by omega
    have lt813 : (b415 : Nat) < b485 := by omega
    have lt814 : (b419 : Nat) < b485 := by omega
    have lt815 : (b423 : Nat) < b485 := by omega
    have lt816 : (ac_490 : Nat) < b561 := by omega
    have lt817 : (ac_490 : Nat) < b596 := by omega
    have lt818 : (ac_490 : Nat) < b631 := by omega
    have lt819 : (ac_490 : Nat) < b666 := by omega
    have lt820 : (ac_490 : Nat) < b701 := by omega
    have F821 := (own_S.keep1 (own_S.keep1 (own_S.keep1 (own_S.keep1 (own_S.keep1 (own_S.keep1 (own_S.keep1 (own_S.wr (own_S.wr (own_S.wr (own_S.wr (own_S.keep1 (own_S.ext (own_S.wr (own_S.wr (own_S.wr (own_S.wr (own_S.keep1 (own_S.ext (own_S.wr (own_S.wr (own_S.wr (own_S.wr (own_S.keep1 (own_S.ext (own_S.wr (own_S.wr (own_S.wr (own_S.wr (own_S.keep1 (own_S.ext (own_S.wr (own_S.wr (own_S.wr (own_S.wr (own_S.keep1 (own_S.ext (own_S.wr (own_S.wr (own_S.wr (own_S.wr (own_S.keep1 (own_S.ext (own_S.wr (own_S.wr (own_S.wr (own_S.wr cs493 W501 (Or.inl lt812)) W510 (Or.inl lt813)) W517 (Or.inl lt814)) W523 (Or.inl lt815)) E526) Kp531 (allS (P := fun y : Nat => y < b485 ∨ ac_490 < y) (Or.inr lt527) all0)) W539 (Or.inl lt812)) W546 (Or.inl lt813)) W552 (Or.inl lt814)) W558 (Or.inl lt815)) E561) Kp566 (allS (P := fun y : Nat => y < b485 ∨ ac_490 < y) (Or.inr lt816) all0)) W574 (Or.inl lt812)) W581 (Or.inl lt813)) W587 (Or.inl lt814)) W593 (Or.inl lt815)) E596) Kp601 (allS (P := fun y : Nat => y < b485 ∨ ac_490 < y) (Or.inr lt817) all0)) W609 (Or.inl lt812)) W616 (Or.inl lt813)) W622 (Or.inl lt814)) W628 (Or.inl lt815)) E631) Kp636 (allS (P := fun y : Nat => y < b485 ∨ ac_490 < y) (Or.inr lt818) all0)) W644 (Or.inl lt812)) W651 (Or.inl lt813)) W657 (Or.inl lt814)) W663 (Or.inl lt815)) E666) Kp671 (allS (P := fun y : Nat => y < b485 ∨ ac_490 < y) (Or.inr lt819) all0)) W679 (Or.inl lt812)) W686 (Or.inl lt813)) W692 (Or.inl lt814)) W698 (Or.inl lt815)) E701) Kp706 (allS (P := fun y : Nat => y < b485 ∨ ac_490 < y) (Or.inr lt820) all0)) W714 (Or.inl lt812)) W721 (Or.inl lt813)) W727 (Or.inl lt814)) W733 (Or.inl lt815)) Kp746 (allS (P := fun y : Nat => y < b485 ∨ ac_490 < y) (Or.inl lt815) all0)) Kp755 (allS (P := fun y : Nat => y < b485 ∨ ac_490 < y) (Or.inl lt815) all0)) Kp764 (allS (P := fun y : Nat => y < b485 ∨ ac_490 < y) (Or.inl lt815) all0)) Kp773 (allS (P := fun y : Nat => y < b485 ∨ ac_490 < y) (Or.inl lt815) all0)) Kp782 (allS (P := fun y : Nat => y < b485 ∨ ac_490 < y) (Or.inl lt815) all0)) Kp791 (allS (P := fun y : Nat => y < b485 ∨ ac_490 < y) (Or.inl lt815) all0)) Kp800 (allS (P := fun y : Nat => y < b485 ∨ ac_490 < y) (Or.inl lt815) all0))
    have lt822 : (b411 : Nat) < b526 := by omega
    have lt823 : (b415 : Nat) < b526 := by omega
    have lt824 : (b419 : Nat) < b526 := by omega
    have lt825 : (b423 : Nat) < b526 := by omega
    have lt826 : (ac_531 : Nat) < b596 := by omega
    have lt827 : (ac_531 : Nat) < b631 := by omega
    have lt828 : (ac_531 : Nat) < b666 := by omega
    have lt829 : (ac_531 : Nat) < b701 := by omega
    have F830 := (own_S.keep1 (own_S.keep1 (own_S.keep1 (own_S.keep1 (own_S.keep1 (own_S.keep1 (own_S.keep1 (own_S.wr (own_S.wr (own_S.wr (own_S.wr (own_S.keep1 (own_S.ext (own_S.wr (own_S.wr (own_S.wr (own_S.wr (own_S.keep1 (own_S.ext (own_S.wr (own_S.wr (own_S.wr (own_S.wr (own_S.keep1 (own_S.ext (own_S.wr (own_S.wr (own_S.wr (own_S.wr (own_S.keep1 (own_S.ext (own_S.wr (own_S.wr (own_S.wr (own_S.wr (own_S.keep1 (own_S.ext (own_S.wr (own_S.wr (own_S.wr (own_S.wr cs534 W539 (Or.inl lt822)) W546 (Or.inl lt823)) W552 (Or.inl lt824)) W558 (Or.inl lt825)) E561) Kp566 (allS (P := fun y : Nat => y < b526 ∨ ac_531 < y) (Or.inr lt562) all0)) W574 (Or.inl lt822)) W581 (Or.inl lt823)) W587 (Or.inl lt824)) W593 (Or.inl lt825)) E596) Kp601 (allS (P := fun y : Nat => y < b526 ∨ ac_531 < y) (Or.inr lt826) all0)) W609 (Or.inl lt822)) W616 (Or.inl lt823)) W622 (Or.inl lt824)) W628 (Or.inl lt825)) E631) Kp636 (allS (P := fun y : Nat => y < b526 ∨ ac_531 < y) (Or.inr lt827) all0)) W644 (Or.inl lt822)) W651 (Or.inl lt823)) W657 (Or.inl lt824)) W663 (Or.inl lt825)) E666) Kp671 (allS (P := fun y : Nat => y < b526 ∨ ac_531 < y) (Or.inr lt828) all0)) W679 (Or.inl lt822)) W686 (Or.inl lt823)) W692 (Or.inl lt824)) W698 (Or.inl lt825)) E701) Kp706 (allS (P := fun y : Nat => y < b526 ∨ ac_531 < y) (Or.inr lt829) all0)) W714 (Or.inl lt822)) W721 (Or.inl lt823)) W727 (Or.inl lt824)) W733 (Or.inl lt825)) Kp746 (allS (P := fun y : Nat => y < b526 ∨ ac_531 < y) (Or.inl lt825) all0)) Kp755 (allS (P := fun y : Nat => y < b526 ∨ ac_531 < y) (Or.inl lt825) all0)) Kp764 (allS (P := fun y : Nat => y < b526 ∨ ac_531 < y) (Or.inl lt825) all0)) Kp773 (allS (P := fun y : Nat => y < b526 ∨ ac_531 < y) (Or.inl lt825) all0)) Kp782 (allS (P := fun y : Nat => y < b526 ∨ ac_531 < y) (Or.inl lt825) all0)) Kp791 (allS (P := fun y : Nat => y < b526 ∨ ac_531 < y) (Or.inl lt825) all0)) Kp800 (allS (P := fun y : Nat => y < b526 ∨ ac_531 < y) (Or.inl lt825) all0))
    have lt831 : (b411 : Nat) < b561 := by omega
    have lt832 : (b415 : Nat) < b561 := by omega
    have lt833 : (b419 : Nat) < b561 := by omega
    have lt834 : (b423 : Nat) < b561 := by omega
    have lt835 : (ac_566 : Nat) < b631 := by omega
    have lt836 : (ac_566 : Nat) < b666 := by omega
    have lt837 : (ac_566 : Nat) < b701 := by omega
    have F838 := (own_S.keep1 (own_S.keep1 (own_S.keep1 (own_S.keep1 (own_S.keep1 (own_S.keep1 (own_S.keep1 (own_S.wr (own_S.wr (own_S.wr (own_S.wr (own_S.keep1 (own_S.ext (own_S.wr (own_S.wr (own_S.wr (own_S.wr (own_S.keep1 (own_S.ext (own_S.wr (own_S.wr (own_S.wr (own_S.wr (own_S.keep1 (own_S.ext (own_S.wr (own_S.wr (own_S.wr (own_S.wr (own_S.keep1 (own_S.ext (own_S.wr (own_S.wr (own_S.wr (own_S.wr cs569 W574 (Or.inl lt831)) W581 (Or.inl lt832)) W587 (Or.inl lt833)) W593 (Or.inl lt834)) E596) Kp601 (allS (P := fun y : Nat => y < b561 ∨ ac_566 < y) (Or.inr lt597) all0)) W609 (Or.inl lt831)) W616 (Or.inl lt832)) W622 (Or.inl lt833)) W628 (Or.inl lt834)) E631) Kp636 (allS (P := fun y : Nat => y < b561 ∨ ac_566 < y) (Or.inr lt835) all0)) W644 (Or.inl lt831)) W651 (Or.inl lt832)) W657 (Or.inl lt833)) W663 (Or.inl lt834)) E666) Kp671 (allS (P := fun y : Nat => y < b561 ∨ ac_566 < y) (Or.inr lt836) all0)) W679 (Or.inl lt831)) W686 (Or.inl lt832)) W692 (Or.inl lt833)) W698 (Or.inl lt834)) E701) Kp706 (allS (P := fun y : Nat => y < b561 ∨ ac_566 < y) (Or.inr lt837) all0)) W714 (Or.inl lt831)) W721 (Or.inl lt832)) W727 (Or.inl lt833)) W733 (Or.inl lt834)) Kp746 (allS (P := fun y : Nat => y < b561 ∨ ac_566 < y) (Or.inl lt834) all0)) Kp755 (allS (P := fun y : Nat => y < b561 ∨ ac_566 < y) (Or.inl lt834) all0)) Kp764 (allS (P := fun y : Nat => y < b561 ∨ ac_566 < y) (Or.inl lt834) all0)) Kp773 (allS (P := fun y : Nat => y < b561 ∨ ac_566 < y) (Or.inl lt834) all0)) Kp782 (allS (P := fun y : Nat => y < b561 ∨ ac_566 < y) (Or.inl lt834) all0)) Kp791 (allS (P := fun y : Nat => y < b561 ∨ ac_566 < y) (Or.inl lt834) all0)) Kp800 (allS (P := fun y : Nat => y < b561 ∨ ac_566 < y) (Or.inl lt834) all0))
    have lt839 : (b411 : Nat) < b596 := by omega
    have lt840 : (b415 : Nat) < b596 := by omega
    have lt841 : (b419 : Nat) < b596 := by omega
    have lt842 : (b423 : Nat) < b596 := by omega
    have lt843 : (ac_601 : Nat) < b666 := by omega
    have lt844 : (ac_601 : Nat) < b701 := by omega
    have F845 := (own_S.keep1 (own_S.keep1 (own_S.keep1 (own_S.keep1 (own_S.keep1 (own_S.keep1 (own_S.keep1 (own_S.wr (own_S.wr (own_S.wr (own_S.wr (own_S.keep1 (own_S.ext (own_S.wr (own_S.wr (own_S.wr (own_S.wr (own_S.keep1 (own_S.ext (own_S.wr (own_S.wr (own_S.wr (own_S.wr (own_S.keep1 (own_S.ext (own_S.wr (own_S.wr (own_S.wr (own_S.wr cs604 W609 (Or.inl lt839)) W616 (Or.inl lt840)) W622 (Or.inl lt841)) W628 (Or.inl lt842)) E631) Kp636 (allS (P := fun y : Nat => y < b596 ∨ ac_601 < y) (Or.inr lt632) all0)) W644 (Or.inl lt839)) W651 (Or.inl lt840)) W657 (Or.inl lt841)) W663 (Or.inl lt842)) E666) Kp671 (allS (P := fun y : Nat => y < b596 ∨ ac_601 < y) (Or.inr lt843) all0)) W679 (Or.inl lt839)) W686 (Or.inl lt840)) W692 (Or.inl lt841)) W698 (Or.inl lt842)) E701) Kp706 (allS (P := fun y : Nat => y < b596 ∨ ac_601 < y) (Or.inr lt844) all0)) W714 (Or.inl lt839)) W721 (Or.inl lt840)) W727 (Or.inl lt841)) W733 (Or.inl lt842)) Kp746 (allS (P := fun y : Nat => y < b596 ∨ ac_601 < y) (Or.inl lt842) all0)) Kp755 (allS (P := fun y : Nat => y < b596 ∨ ac_601 < y) (Or.inl lt842) all0)) Kp764 (allS (P := fun y : Nat => y < b596 ∨ ac_601 < y) (Or.inl lt842) all0)) Kp773 (allS (P := fun y : Nat => y < b596 ∨ ac_601 < y) (Or.inl lt842) all0)) Kp782 (allS (P := fun y : Nat => y < b596 ∨ ac_601 < y) (Or.inl lt842) all0)) Kp791 (allS (P := fun y : Nat => y < b596 ∨ ac_601 < y) (Or.inl lt842) all0)) Kp800 (allS (P := fun y : Nat => y < b596 ∨ ac_601 < y) (Or.inl lt842) all0))
    have lt846 : (b411 : Nat) < b631 := by omega
    have lt847 : (b415 : Nat) < b631 := by omega
    have lt848 : (b419 : Nat) < b631 := by omega
    have lt849 : (b423 : Nat) < b631 := by omega
    have lt850 : (ac_636 : Nat) < b701 := by omega
    have F851 := (own_S.keep1 (own_S.keep1 (own_S.keep1 (own_S.keep1 (own_S.keep1 (own_S.keep1 (own_S.keep1 (own_S.wr (own_S.wr (own_S.wr (own_S.wr (own_S.keep1 (own_S.ext (own_S.wr (own_S.wr (own_S.wr (own_S.wr (own_S.keep1 (own_S.ext (own_S.wr (own_S.wr (own_S.wr (own_S.wr cs639 W644 (Or.inl lt846)) W651 (Or.inl lt847)) W657 (Or.inl lt848)) W663 (Or.inl lt849)) E666) Kp671 (allS (P := fun y : Nat => y < b631 ∨ ac_636 < y) (Or.inr lt667) all0)) W679 (Or.inl lt846)) W686 (Or.inl lt847)) W692 (Or.inl lt848)) W698 (Or.inl lt849)) E701) Kp706 (allS (P := fun y : Nat => y < b631 ∨ ac_636 < y) (Or.inr lt850) all0)) W714 (Or.inl lt846)) W721 (Or.inl lt847)) W727 (Or.inl lt848)) W733 (Or.inl lt849)) Kp746 (allS (P := fun y : Nat => y < b631 ∨ ac_636 < y) (Or.inl lt849) all0)) Kp755 (allS (P := fun y : Nat => y < b631 ∨ ac_636 < y) (Or.inl lt849) all0)) Kp764 (allS (P := fun y : Nat => y < b631 ∨ ac_636 < y) (Or.inl lt849) all0)) Kp773 (allS (P := fun y : Nat => y < b631 ∨ ac_636 < y) (Or.inl lt849) all0)) Kp782 (allS (P := fun y : Nat => y < b631 ∨ ac_636 < y) (Or.inl lt849) all0)) Kp791 (allS (P := fun y : Nat => y < b631 ∨ ac_636 < y) (Or.inl lt849) all0)) Kp800 (allS (P := fun y : Nat => y < b631 ∨ ac_636 < y) (Or.inl lt849) all0))
    have lt852 : (b411 : Nat) < b666 := by omega
    have lt853 : (b415 : Nat) < b666 := by omega
    have lt854 : (b419 : Nat) < b666 := by omega
    have lt855 : (b423 : Nat) < b666 := by omega
    have F856 := (own_S.keep1 (own_S.keep1 (own_S.keep1 (own_S.keep1 (own_S.keep1 (own_S.keep1 (own_S.keep1 (own_S.wr (own_S.wr (own_S.wr (own_S.wr (own_S.keep1 (own_S.ext (own_S.wr (own_S.wr (own_S.wr (own_S.wr cs674 W679 (Or.inl lt852)) W686 (Or.inl lt853)) W692 (Or.inl lt854)) W698 (Or.inl lt855)) E701) Kp706 (allS (P := fun y : Nat => y < b666 ∨ ac_671 < y) (Or.inr lt702) all0)) W714 (Or.inl lt852)) W721 (Or.inl lt853)) W727 (Or.inl lt854)) W733 (Or.inl lt855)) Kp746 (allS (P := fun y : Nat => y < b666 ∨ ac_671 < y) (Or.inl lt855) all0)) Kp755 (allS (P := fun y : Nat => y < b666 ∨ ac_671 < y) (Or.inl lt855) all0)) Kp764 (allS (P := fun y : Nat => y < b666 ∨ ac_671 < y) (Or.inl lt855) all0)) Kp773 (allS (P := fun y : Nat => y < b666 ∨ ac_671 < y) (Or.inl lt855) all0)) Kp782 (allS (P := fun y : Nat => y < b666 ∨ ac_671 < y) (Or.inl lt855) all0)) Kp791 (allS (P := fun y : Nat => y < b666 ∨ ac_671 < y) (Or.inl lt855) all0)) Kp800 (allS (P := fun y : Nat => y < b666 ∨ ac_671 < y) (Or.inl lt855) all0))
    have lt857 : (b411 : Nat) < b701 := by omega
    have lt858 : (b415 : Nat) < b701 := by omega
    have lt859 : (b419 : Nat) < b701 := by omega
    have lt860 : (b423 : Nat) < b701 := by omega
    have F861 := (own_S.keep1 (own_S.keep1 (own_S.keep1 (own_S.keep1 (own_S.keep1 (own_S.keep1 (own_S.keep1 (own_S.wr (own_S.wr (own_S.wr (own_S.wr cs709 W714 (Or.inl lt857)) W721 (Or.inl lt858)) W727 (Or.inl lt859)) W733 (Or.inl lt860)) Kp746 (allS (P := fun y : Nat => y < b701 ∨ ac_706 < y) (Or.inl lt860) all0)) Kp755 (allS (P := fun y : Nat => y < b701 ∨ ac_706 < y) (Or.inl lt860) all0)) Kp764 (allS (P := fun y : Nat => y < b701 ∨ ac_706 < y) (Or.inl lt860) all0)) Kp773 (allS (P := fun y : Nat => y < b701 ∨ ac_706 < y) (Or.inl lt860) all0)) Kp782 (allS (P := fun y : Nat => y < b701 ∨ ac_706 < y) (Or.inl lt860) all0)) Kp791 (allS (P := fun y : Nat => y < b701 ∨ ac_706 < y) (Or.inl lt860) all0)) Kp800 (allS (P := fun y : Nat => y < b701 ∨ ac_706 < y) (Or.inl lt860) all0))
    have lt862 : (ac_706 : Nat) < T800.heap.size := by omega
    have nS863 : own_SS Z T800.heap (8 : Int32).toNatClampNeg (own_ff ([b429, b485, b526, b561, b596, b631, b666, b701] ++ [T800.heap.size])) (0 : Int) (0 : Int) := fun j hj => own_chain.at [b429, b485, b526, b561, b596, b631, b666, b701, T800.heap.size] ⟨own_S.up2 F811 lt486, own_S.up2 F821 lt527, own_S.up2 F830 lt562, own_S.up2 F838 lt597, own_S.up2 F845 lt632, own_S.up2 F851 lt667, own_S.up2 F856 lt702, own_S.up2 F861 lt862, trivial⟩ j (Nat.succ_lt_succ hj)
    have nR864 : own_R (8 : Int32) (own_ff ([b429, b485, b526, b561, b596, b631, b666, b701] ++ [T800.heap.size])) [(.ref b429), (.ref b485), (.ref b526), (.ref b561), (.ref b596), (.ref b631), (.ref b666), (.ref b701)] := own_R_of [b429, b485, b526, b561, b596, b631, b666, b701] T800.heap.size rfl
    show ∃ t o, Steps p.tables e below (T800.setTop (mkF m 120 #[.val (.ref q1), .val (.int z1), .val (.int (8 : Int32)), .val (.int (0 : Int32))] [])) t ∧ _
    have F865 := (Exa.keep F792 Kp800)
    have F866 := (Fld.keep F793 Kp800 (ninS ne482 nin0))
    have F867 := (Fld.keep F794 Kp800 (ninS ne482 nin0))
    have F868 := (Fld.keep F795 Kp800 (ninS ne482 nin0))
    have F869 := (Arv.keep F796 Kp800 (ninS ne506 nin0))
    have F870 := (Arv.keep F797 Kp800 (ninS ne513 nin0))
    have F871 := (Fld.keep (Fld.keep (Fld.keep (Fld.keep (Fld.keep (Fld.keep (Fld.keep (Fld.other W733 (Fld.other W727 (Fld.other W721 (Fld.other W714 (Fld.keep (Fld.ext E701 F699) Kp706 (ninS ne715 nin0)) (Or.inl ne446)) (Or.inl ne457)) (Or.inl ne469)) (Or.inl ne482)) Kp746 (ninS ne482 nin0)) Kp755 (ninS ne482 nin0)) Kp764 (ninS ne482 nin0)) Kp773 (ninS ne482 nin0)) Kp782 (ninS ne482 nin0)) Kp791 (ninS ne482 nin0)) Kp800 (ninS ne482 nin0))
    have F872 := (Arv.keep (Arv.keep (Arv.keep (Arv.keep (Arv.keep (Arv.keep (Arv.keep (Arv.other (Arv.other (Arv.other V714 W721 ne495) W727 ne496) W733 ne497) Kp746 (ninS ne497 nin0)) Kp755 (ninS ne497 nin0)) Kp764 (ninS ne497 nin0)) Kp773 (ninS ne497 nin0)) Kp782 (ninS ne497 nin0)) Kp791 (ninS ne497 nin0)) Kp800 (ninS ne497 nin0))
    have F873 := (Fld.keep (Fld.keep (Fld.keep (Fld.keep (Fld.keep (Fld.keep (Fld.keep (Fld.other W733 (Fld.other W727 (Fld.other W721 (Fld.other W714 (Fld.keep (Fld.ext E701 (Fld.other W698 (Fld.other W692 (Fld.other W686 (Fld.other W679 (Fld.keep (Fld.ext E666 (Fld.other W663 (Fld.other W657 (Fld.other W651 (Fld.other W644 (Fld.keep (Fld.ext E631 (Fld.other W628 (Fld.other W622 (Fld.other W616 (Fld.other W609 (Fld.keep (Fld.ext E596 (Fld.other W593 (Fld.other W587 (Fld.other W581 (Fld.other W574 (Fld.keep (Fld.ext E561 (Fld.other W558 (Fld.other W552 (Fld.other W546 (Fld.other W539 (Fld.keep (Fld.ext E526 (Fld.other W523 (Fld.other W517 (Fld.other W510 (Fld.other W501 (Fld.keep (Fld.ext E485 (Fld.other W479 (Fld.other W466 (Fld.other W454 (Fld.other W442 (Fld.keep (Fld.ext E429 (Fld.other W426 (Fld.ext E423 (Fld.other W422 (Fld.ext E419 (Fld.other W418 (Fld.ext E415 (Fld.other W414 (Fld.ext E411 P6) (Or.inr (slot_ne (a0 := a0) (Or.inl w_78) (Or.inr w_28) (by decide) (t := .int) (t' := (.array (.object "com/example/holdback/holdback/sim/EventQueue$Stream"))) (by decide) (by decide))))) (Or.inr (slot_ne (a0 := a0) (Or.inl w_78) (Or.inr w_31) (by decide) (t := .int) (t' := (.array .double)) (by decide) (by decide))))) (Or.inr (slot_ne (a0 := a0) (Or.inl w_78) (Or.inr w_34) (by decide) (t := .int) (t' := (.array .long)) (by decide) (by decide))))) (Or.inr (slot_ne (a0 := a0) (Or.inl w_78) (Or.inr w_37) (by decide) (t := .int) (t' := (.array .int)) (by decide) (by decide))))) Kp433 (ninS ne445 nin0)) (Or.inl ne446)) (Or.inl ne457)) (Or.inl ne469)) (Or.inl ne482))) Kp490 (ninS ne502 nin0)) (Or.inl ne446)) (Or.inl ne457)) (Or.inl ne469)) (Or.inl ne482))) Kp531 (ninS ne540 nin0)) (Or.inl ne446)) (Or.inl ne457)) (Or.inl ne469)) (Or.inl ne482))) Kp566 (ninS ne575 nin0)) (Or.inl ne446)) (Or.inl ne457)) (Or.inl ne469)) (Or.inl ne482))) Kp601 (ninS ne610 nin0)) (Or.inl ne446)) (Or.inl ne457)) (Or.inl ne469)) (Or.inl ne482))) Kp636 (ninS ne645 nin0)) (Or.inl ne446)) (Or.inl ne457)) (Or.inl ne469)) (Or.inl ne482))) Kp671 (ninS ne680 nin0)) (Or.inl ne446)) (Or.inl ne457)) (Or.inl ne469)) (Or.inl ne482))) Kp706 (ninS ne715 nin0)) (Or.inl ne446)) (Or.inl ne457)) (Or.inl ne469)) (Or.inl ne482)) Kp746 (ninS ne482 nin0)) Kp755 (ninS ne482 nin0)) Kp764 (ninS ne482 nin0)) Kp773 (ninS ne482 nin0)) Kp782 (ninS ne482 nin0)) Kp791 (ninS ne482 nin0)) Kp800 (ninS ne482 nin0))
    have F874 := (Fld.keep (Fld.keep (Fld.keep (Fld.keep (Fld.keep (Fld.keep (Fld.keep (Fld.other W733 (Fld.other W727 (Fld.other W721 (Fld.other W714 (Fld.keep (Fld.ext E701 (Fld.other W698 (Fld.other W692 (Fld.other W686 (Fld.other W679 (Fld.keep (Fld.ext E666 (Fld.other W663 (Fld.other W657 (Fld.other W651 (Fld.other W644 (Fld.keep (Fld.ext E631 (Fld.other W628 (Fld.other W622 (Fld.other W616 (Fld.other W609 (Fld.keep (Fld.ext E596 (Fld.other W593 (Fld.other W587 (Fld.other W581 (Fld.other W574 (Fld.keep (Fld.ext E561 (Fld.other W558 (Fld.other W552 (Fld.other W546 (Fld.other W539 (Fld.keep (Fld.ext E526 (Fld.other W523 (Fld.other W517 (Fld.other W510 (Fld.other W501 (Fld.keep (Fld.ext E485 (Fld.other W479 (Fld.other W466 (Fld.other W454 (Fld.other W442 (Fld.keep (Fld.ext E429 (Fld.other W426 (Fld.ext E423 (Fld.other W422 (Fld.ext E419 (Fld.other W418 (Fld.ext E415 (Fld.other W414 (Fld.ext E411 P7) (Or.inr (slot_ne (a0 := a0) (Or.inl w_87) (Or.inr w_28) (by decide) (t := .long) (t' := (.array (.object "com/example/holdback/holdback/sim/EventQueue$Stream"))) (by decide) (by decide))))) (Or.inr (slot_ne (a0 := a0) (Or.inl w_87) (Or.inr w_31) (by decide) (t := .long) (t' := (.array .double)) (by decide) (by decide))))) (Or.inr (slot_ne (a0 := a0) (Or.inl w_87) (Or.inr w_34) (by decide) (t := .long) (t' := (.array .long)) (by decide) (by decide))))) (Or.inr (slot_ne (a0 := a0) (Or.inl w_87) (Or.inr w_37) (by decide) (t := .long) (t' := (.array .int)) (by decide) (by decide))))) Kp433 (ninS ne445 nin0)) (Or.inl ne446)) (Or.inl ne457)) (Or.inl ne469)) (Or.inl ne482))) Kp490 (ninS ne502 nin0)) (Or.inl ne446)) (Or.inl ne457)) (Or.inl ne469)) (Or.inl ne482))) Kp531 (ninS ne540 nin0)) (Or.inl ne446)) (Or.inl ne457)) (Or.inl ne469)) (Or.inl ne482))) Kp566 (ninS ne575 nin0)) (Or.inl ne446)) (Or.inl ne457)) (Or.inl ne469)) (Or.inl ne482))) Kp601 (ninS ne610 nin0)) (Or.inl ne446)) (Or.inl ne457)) (Or.inl ne469)) (Or.inl ne482))) Kp636 (ninS ne645 nin0)) (Or.inl ne446)) (Or.inl ne457)) (Or.inl ne469)) (Or.inl ne482))) Kp671 (ninS ne680 nin0)) (Or.inl ne446)) (Or.inl ne457)) (Or.inl ne469)) (Or.inl ne482))) Kp706 (ninS ne715 nin0)) (Or.inl ne446)) (Or.inl ne457)) (Or.inl ne469)) (Or.inl ne482)) Kp746 (ninS ne482 nin0)) Kp755 (ninS ne482 nin0)) Kp764 (ninS ne482 nin0)) Kp773 (ninS ne482 nin0)) Kp782 (ninS ne482 nin0)) Kp791 (ninS ne482 nin0)) Kp800 (ninS ne482 nin0))
    obtain ⟨fs, hr, hrun, hended, hW, hsame⟩ := X800.leave (v := none) (fun _ => rfl)
    refine ⟨_, _, ?_, hrun, hended, _, _, rfl, ?_, ⟨_, rfl⟩, hW, hsame.mono (by decide) (by decide)⟩
    · exact X800.returnOut hx Bd.returns (hb hby d2_120) hr
    · show Q_rmQI Z _ _ h0 n0 _ T800.heap _
      exact ⟨b411, b415, b419, b423, k411, k415, k419, k423, [(.ref b429), (.ref b485), (.ref b526), (.ref b561), (.ref b596), (.ref b631), (.ref b666), (.ref b701)], [(.double (9218868437227405312 : UInt64)), (.double (9218868437227405312 : UInt64)), (.double (9218868437227405312 : UInt64)), (.double (9218868437227405312 : UInt64)), (.double (9218868437227405312 : UInt64)), (.double (9218868437227405312 : UInt64)), (.double (9218868437227405312 : UInt64)), (.double (9218868437227405312 : UInt64))], [(.long (9223372036854775807 : Int64)), (.long (9223372036854775807 : Int64)), (.long (9223372036854775807 : Int64)), (.long (9223372036854775807 : Int64)), (.long (9223372036854775807 : Int64)), (.long (9223372036854775807 : Int64)), (.long (9223372036854775807 : Int64)), (.long (9223372036854775807 : Int64))], wl2_800, (own_ff ([b429, b485, b526, b561, b596, b631, b666, b701] ++ [T800.heap.size])), (8 : Int32), (16 : Int32), rfl, N800, K800, F865, F866, F867, F868, F869, F870, G800_0, F871, F872, nS863, F873, F874, Gi734, Gi735, H800_0, hN737, nR864, (by omega), (by omega), (by omega), (by omega), (show (b423 : Nat) < b429 by omega), hk.2⟩
theorem own_18n (x : Int32) : own_18 ((1 : Int32) + (x &&& (7 : Int32))) := by
  have c := c_and x 7 (by decide)
  have e7 : (7 : Int32).toInt = 7 := rfl
  have e1 : (1 : Int32).toInt = 1 := rfl
  have c1 := c_iadd 1 (x &&& 7)
  have r := rng32 ((1 : Int32) + (x &&& 7))
  have h : ((1 : Int32) + (x &&& 7)).toInt = 1 ∨ ((1 : Int32) + (x &&& 7)).toInt = 2 ∨ ((1 : Int32) + (x &&& 7)).toInt = 3 ∨ ((1 : Int32) + (x &&& 7)).toInt = 4 ∨ ((1 : Int32) + (x &&& 7)).toInt = 5 ∨ ((1 : Int32) + (x &&& 7)).toInt = 6 ∨ ((1 : Int32) + (x &&& 7)).toInt = 7 ∨ ((1 : Int32) + (x &&& 7)).toInt = 8 := by omega
  rcases h with h | h | h | h | h | h | h | h
  · exact Or.inl (Int32.toInt_inj.mp h)
  · exact Or.inr (Or.inl (Int32.toInt_inj.mp h))
  · exact Or.inr (Or.inr (Or.inl (Int32.toInt_inj.mp h)))
  · exact Or.inr (Or.inr (Or.inr (Or.inl (Int32.toInt_inj.mp h))))
  · exact Or.inr (Or.inr (Or.inr (Or.inr (Or.inl (Int32.toInt_inj.mp h)))))
  · exact Or.inr (Or.inr (Or.inr (Or.inr (Or.inr (Or.inl (Int32.toInt_inj.mp h))))))
  · exact Or.inr (Or.inr (Or.inr (Or.inr (Or.inr (Or.inr (Or.inl (Int32.toInt_inj.mp h)))))))
  · exact Or.inr (Or.inr (Or.inr (Or.inr (Or.inr (Or.inr (Or.inr (Int32.toInt_inj.mp h)))))))
theorem own_18.nz {x : Int32} (h : own_18 x) : x ≠ 0 ∧ 0 < x.toInt := by rcases h with rfl | rfl | rfl | rfl | rfl | rfl | rfl | rfl <;> decide
theorem own_rem {x y zN : Int32} (m : Int32) (hx : 0 ≤ (x &&& m).toInt) (hy : own_18 y) (hf : y.toInt ≤ zN.toInt) : ¬ ((x &&& m) % y) < 0 ∧ ((x &&& m) % y) < zN := by
  have c := (c_iremV (x &&& m) y).1 hx hy.nz.2
  have e0 : (0 : Int32).toInt = 0 := rfl
  simp only [Int32.lt_iff_toInt_lt, e0]; omega
theorem own_m7 (x : Int32) : 0 ≤ (x &&& (7 : Int32)).toInt := (c_and x 7 (by decide)).1
theorem own_m15 (x : Int32) : 0 ≤ (x &&& (15 : Int32)).toInt ∧ (x &&& (15 : Int32)).toInt ≤ 15 := c_and x 15 (by decide)
theorem own_tt {t x : Int32} (B : Int) (h1 : 0 ≤ t.toInt) (h2 : t.toInt ≤ B) (hB : B < 1000) : t.toInt ≤ (t + (x &&& (15 : Int32))).toInt ∧ (t + (x &&& (15 : Int32))).toInt ≤ B + 15 := by
  have c := own_m15 x
  have c1 := c_iadd t (x &&& 15)
  have r := rng32 (t + (x &&& 15))
  omega
theorem own_and3 (k : Int32) : k &&& 3 = 0 ∨ k &&& 3 = 1 ∨ k &&& 3 = 2 ∨ k &&& 3 = 3 := by
  have h := c_mask k 3 2 (by decide) (by decide)
  have h1 : ((2 ^ 2 : Nat) : Int) = 4 := rfl
  rw [h1] at h
  have h2 : (k &&& 3).toInt = 0 ∨ (k &&& 3).toInt = 1 ∨ (k &&& 3).toInt = 2 ∨ (k &&& 3).toInt = 3 := by omega
  rcases h2 with h2 | h2 | h2 | h2
  · exact Or.inl (Int32.toInt_inj.mp h2)
  · exact Or.inr (Or.inl (Int32.toInt_inj.mp h2))
  · exact Or.inr (Or.inr (Or.inl (Int32.toInt_inj.mp h2)))
  · exact Or.inr (Or.inr (Or.inr (Int32.toInt_inj.mp h2)))
theorem ef_rm0 (m : MethodId) (x0 : Int32) (x1 : Int32) (x2 : Int32) (x3 : Int32) (x4 : Int32) : entryFrame m #[(.int x0), (.int x1), (.int x2), (.int x3), (.int x4)] maxLocals = mkF m 0 #[.val (.int x0), .val (.int x1), .val (.int x2), .val (.int x3), .val (.int x4), .unset, .unset, .unset, .unset, .unset, .unset, .unset, .unset, .unset, .unset, .unset] [] := by first | (simp [entryFrame, mkF, argsToLocals, Value.category, maxLocals]; done) | rfl
theorem pd__28_29Z : parseMethodDescriptor "()Z" = some ⟨[], some .boolean⟩ := by decide +kernel
theorem pd__28IDLjava_2flang_2fRunnable_3b_29V : parseMethodDescriptor "(IDLjava/lang/Runnable;)V" = some ⟨[.int, .double, (.object "java/lang/Runnable")], none⟩ := by decide +kernel
theorem pn_com_example_holdback_holdback_sim_EventQueueIsEmptyPinLaw : plainName "com/example/holdback/holdback/sim/EventQueueIsEmptyPinLaw" = true := by first | (simp [plainName, overriddenIn]; done) | decide +kernel
def Q_rm0 (Z : State) (xn : Int32) (xk : Int32) (xp : Int32) (xu : Int32) (xv : Int32) (h0 : Heap) (n0 : Nat) (v : Option Value) (h : Heap) (L : List Loc) : Prop := v = some (.int (1 : Int32)) ∧ Fr n0 L ∧ Keep h0 h (own_up n0 h0)
set_option maxRecDepth 65536 in
set_option maxHeartbeats 40000000 in
theorem rm0 (l : Launch) (Z : State) (a0 : Array Value) (hw : ∀ d ∈ tables_1, d.before a0 Z = true) (ws : List Jvm.Cond) (xn : Int32) (xk : Int32) (xp : Int32) (xu : Int32) (xv : Int32) (h0 : Heap) (n0 : Nat) (Z0 : n0 ≤ h0.size) (OLD : Old Z n0 h0) :
    MetFree l x (head1 (Jvm.Cond.code x code maxLocals ret :: ws) room_1) (fun a U => a = #[(.int xn), (.int xk), (.int xp), (.int xu), (.int xv)] ∧ Z.Warmed39 U.vm ∧ U.heap = h0) (fun _ _ _ _ _ => True) (fun _ U o U' => ∃ v L, o = .returned v ∧ Q_rm0 Z xn xk xp xu xv h0 n0 v U'.heap L ∧ FrameEnd U o U' L room_1.cells room_1.slots) := by
  refine MetFree.of_bodySF (plainFor_of_name pn_com_example_holdback_holdback_sim_EventQueueIsEmptyPinLaw) hisR ?_
  intro p e s m args below meth c s₁ Bd hml0 hP hK
  obtain ⟨rfl, hZ, hh⟩ := hP
  have hx := Bd.exec
  have hby := Bd.bytes
  have hml : c.maxLocals = 16 := hml0
  have hown : s.vm.findClass "com/example/holdback/holdback/sim/EventQueueIsEmptyPinLaw" = some m.cls := findClass_of_methodNamed Bd.named
  have hnm := (name_of_methodNamed Bd.named Bd.method).1
  have X0 : Stand p l e room_1 s m #[(.int xn), (.int xk), (.int xp), (.int xu), (.int xv)] below meth c s₁ [] 0 0 := Stand.of_body Bd
  have e0 : s₁.heap = h0 := by rw [← hh, Bd.state]; rfl
  have N0 := Fr.nil n0
  have pre0 : ∀ t, Steps p.tables e below (s₁.setTop (mkF m 0 #[.val (.int xn), .val (.int xk), .val (.int xp), .val (.int xu), .val (.int xv), .unset, .unset, .unset, .unset, .unset, .unset, .unset, .unset, .unset, .unset, .unset] [])) t → Steps p.tables e below (s₁.setTop (entryFrame m #[(.int xn), (.int xk), (.int xp), (.int xu), (.int xv)] maxLocals)) t := fun t k => castTop (ef_rm0 m xn xk xp xu xv) k
  have w_106 := hw _ (List.mem_of_getElem? (i := 106) rfl)
  have w_107 := hw _ (List.mem_of_getElem? (i := 107) rfl)
  have w_108 := hw _ (List.mem_of_getElem? (i := 108) rfl)
  have w_109 := hw _ (List.mem_of_getElem? (i := 109) rfl)
  have w_110 := hw _ (List.mem_of_getElem? (i := 110) rfl)
  have w_2 := hw _ (List.mem_of_getElem? (i := 2) rfl)
  have w_3 := hw _ (List.mem_of_getElem? (i := 3) rfl)
  have w_6 := hw _ (List.mem_of_getElem? (i := 6) rfl)
  have w_72 := hw _ (List.mem_of_getElem? (i := 72) rfl)
  have w_73 := hw _ (List.mem_of_getElem? (i := 73) rfl)
  have w_74 := hw _ (List.mem_of_getElem? (i := 74) rfl)
  have w_75 := hw _ (List.mem_of_getElem? (i := 75) rfl)
  have w_76 := hw _ (List.mem_of_getElem? (i := 76) rfl)
  have w_79 := hw _ (List.mem_of_getElem? (i := 79) rfl)
  have w_80 := hw _ (List.mem_of_getElem? (i := 80) rfl)
  have w_81 := hw _ (List.mem_of_getElem? (i := 81) rfl)
  have w_82 := hw _ (List.mem_of_getElem? (i := 82) rfl)
  have w_83 := hw _ (List.mem_of_getElem? (i := 83) rfl)
  have w_9 := hw _ (List.mem_of_getElem? (i := 9) rfl)
  have oz := OLD.1
  refine own_go (B := s₁.setTop (mkF m 0 #[.val (.int xn), .val (.int xk), .val (.int xp), .val (.int xu), .val (.int xv), .unset, .unset, .unset, .unset, .unset, .unset, .unset, .unset, .unset, .unset, .unset] [])) pre0 ?_
  show ∃ t o, Steps p.tables e below (s₁.setTop (mkF m 0 #[.val (.int xn), .val (.int xk), .val (.int xp), .val (.int xu), .val (.int xv), .unset, .unset, .unset, .unset, .unset, .unset, .unset, .unset, .unset, .unset, .unset] [])) t ∧ _
  refine own_go (fun _ => XS.iconst X0.here hx rfl (hb hby at_0)) ?_
  refine own_go (fun _ => XS.iloadN X0.here hx rfl (hb hby at_1) rfl) ?_
  refine own_go (fun _ => XS.bipush X0.here hx rfl (hb hby at_2)) ?_
  refine own_go (fun _ => XS.iand X0.here hx rfl (hb hby at_4) rfl) ?_
  refine own_go (fun _ => XS.iadd X0.here hx rfl (hb hby at_5) rfl) ?_
  refine own_go (fun _ => XS.istore X0.here hx rfl (hb hby at_6) rfl (l' := #[.val (.int xn), .val (.int xk), .val (.int xp), .val (.int xu), .val (.int xv), .val (.int ((1 : Int32) + (xn &&& (7 : Int32)))), .unset, .unset, .unset, .unset, .unset, .unset, .unset, .unset, .unset, .unset]) rfl) ?_
  show ∃ t o, Steps p.tables e below (s₁.setTop (mkF m 8 #[.val (.int xn), .val (.int xk), .val (.int xp), .val (.int xu), .val (.int xv), .val (.int ((1 : Int32) + (xn &&& (7 : Int32)))), .unset, .unset, .unset, .unset, .unset, .unset, .unset, .unset, .unset, .unset] [])) t ∧ _
  obtain ⟨ns, e_ns⟩ : ∃ z : Int32, z = ((1 : Int32) + (xn &&& (7 : Int32))) := ⟨_, rfl⟩
  rw [← e_ns]
  have h18 : own_18 ns := by rw [e_ns]; exact own_18n xn
  show ∃ t o, Steps p.tables e below (s₁.setTop (mkF m 8 #[.val (.int xn), .val (.int xk), .val (.int xp), .val (.int xu), .val (.int xv), .val (.int ns), .unset, .unset, .unset, .unset, .unset, .unset, .unset, .unset, .unset, .unset] [])) t ∧ _
  refine own_go (fun _ => XS.iloadN X0.here hx rfl (hb hby at_8) rfl) ?_
  refine own_go (fun _ => XS.iconst X0.here hx rfl (hb hby at_9)) ?_
  refine own_go (fun _ => XS.iand X0.here hx rfl (hb hby at_10) rfl) ?_
  refine own_go (fun _ => XS.istore X0.here hx rfl (hb hby at_11) rfl (l' := #[.val (.int xn), .val (.int xk), .val (.int xp), .val (.int xu), .val (.int xv), .val (.int ns), .val (.int (xk &&& (3 : Int32))), .unset, .unset, .unset, .unset, .unset, .unset, .unset, .unset, .unset]) rfl) ?_
  show ∃ t o, Steps p.tables e below (s₁.setTop (mkF m 13 #[.val (.int xn), .val (.int xk), .val (.int xp), .val (.int xu), .val (.int xv), .val (.int ns), .val (.int (xk &&& (3 : Int32))), .unset, .unset, .unset, .unset, .unset, .unset, .unset, .unset, .unset] [])) t ∧ _
  obtain ⟨kk, e_kk⟩ : ∃ z : Int32, z = (xk &&& (3 : Int32)) := ⟨_, rfl⟩
  rw [← e_kk]
  have hkk : kk = (0 : Int32) ∨ kk = (1 : Int32) ∨ kk = (2 : Int32) ∨ kk = (3 : Int32) := by rw [e_kk]; exact own_and3 xk
  show ∃ t o, Steps p.tables e below (s₁.setTop (mkF m 13 #[.val (.int xn), .val (.int xk), .val (.int xp), .val (.int xu), .val (.int xv), .val (.int ns), .val (.int kk), .unset, .unset, .unset, .unset, .unset, .unset, .unset, .unset, .unset] [])) t ∧ _
  refine own_go (fun _ => XS.iloadN X0.here hx rfl (hb hby at_13) rfl) ?_
  refine own_go (fun _ => XS.iconst X0.here hx rfl (hb hby at_14)) ?_
  refine own_go (fun _ => XS.iand X0.here hx rfl (hb hby at_15) rfl) ?_
  refine own_go (fun _ => XS.iload X0.here hx rfl (hb hby at_16) rfl) ?_
  show ∃ t o, Steps p.tables e below (s₁.setTop (mkF m 18 #[.val (.int xn), .val (.int xk), .val (.int xp), .val (.int xu), .val (.int xv), .val (.int ns), .val (.int kk), .unset, .unset, .unset, .unset, .unset, .unset, .unset, .unset, .unset] [(.int kk), (.int (xp &&& (3 : Int32)))])) t ∧ _
  obtain ⟨_, _, ⟨T1, L1, k1, n1⟩, -, X1, ⟨Lc1, hQ1, l1, y1, z1⟩, st1⟩ := Jvm.LawKit.callS X0 hx (y := (⟨"java/lang/Math", "min", "(II)I"⟩ : MethodName)) hown (mvT hZ (hw _ (List.mem_of_getElem? (i := 0) rfl))) (mvT hZ (hw _ (List.mem_of_getElem? (i := 1) rfl))) (mvT hZ w_2) (mvT hZ w_3) (by decide) (backOf (W := 0) (rmMin l Z a0 hw [] ((xp &&& (3 : Int32))) kk h0 n0 Z0 OLD) hZ w_3 w_2 (by decide) (by decide)) (g := (mkF m 18 #[.val (.int xn), .val (.int xk), .val (.int xp), .val (.int xu), .val (.int xv), .val (.int ns), .val (.int kk), .unset, .unset, .unset, .unset, .unset, .unset, .unset, .unset, .unset] [(.int kk), (.int (xp &&& (3 : Int32)))])) rfl (by rw [hml]; rfl) (argsL := [(.int (xp &&& (3 : Int32))), (.int kk)]) (rest := []) (lenOf pd__28II_29I rfl) rfl (by show 2 * 0 + _ ≤ _; exact Nat.le_of_eq rfl) (hb hby at_18) (fun _ _ => ⟨rfl, e0, (by decide : 0 + 0 ≤ _), (by decide : 0 + 0 ≤ _)⟩)
  dsimp only [Pt.U, Pt.locs, Pt.cells, Pt.slots] at X1 l1 y1 z1 st1 hQ1
  rw [l1, y1, z1] at X1
  obtain ⟨r1_1, rfl, Nq1, e1, H1_0⟩ := hQ1
  have N1 := Fr.app N0 Nq1
  refine own_go st1 ?_
  refine own_go (fun _ => XS.istore X1.here hx rfl (hb hby at_21) rfl (l' := #[.val (.int xn), .val (.int xk), .val (.int xp), .val (.int xu), .val (.int xv), .val (.int ns), .val (.int kk), .val (.int r1_1), .unset, .unset, .unset, .unset, .unset, .unset, .unset, .unset]) rfl) ?_
  refine own_go (fun _ => XS.iloadN X1.here hx rfl (hb hby at_23) rfl) ?_
  refine own_go (fun _ => XS.bipush X1.here hx rfl (hb hby at_24)) ?_
  refine own_go (fun _ => XS.iand X1.here hx rfl (hb hby at_26) rfl) ?_
  refine own_go (fun _ => XS.istore X1.here hx rfl (hb hby at_27) rfl (l' := #[.val (.int xn), .val (.int xk), .val (.int xp), .val (.int xu), .val (.int xv), .val (.int ns), .val (.int kk), .val (.int r1_1), .val (.int (xu &&& (15 : Int32))), .unset, .unset, .unset, .unset, .unset, .unset, .unset]) rfl) ?_
  show ∃ t o, Steps p.tables e below (T1.setTop (mkF m 29 #[.val (.int xn), .val (.int xk), .val (.int xp), .val (.int xu), .val (.int xv), .val (.int ns), .val (.int kk), .val (.int r1_1), .val (.int (xu &&& (15 : Int32))), .unset, .unset, .unset, .unset, .unset, .unset, .unset] [])) t ∧ _
  obtain ⟨ta1, e_ta1⟩ : ∃ z : Int32, z = (xu &&& (15 : Int32)) := ⟨_, rfl⟩
  rw [← e_ta1]
  have b_ta1 : 0 ≤ ta1.toInt ∧ ta1.toInt ≤ 15 := by rw [e_ta1]; exact own_m15 xu
  show ∃ t o, Steps p.tables e below (T1.setTop (mkF m 29 #[.val (.int xn), .val (.int xk), .val (.int xp), .val (.int xu), .val (.int xv), .val (.int ns), .val (.int kk), .val (.int r1_1), .val (.int ta1), .unset, .unset, .unset, .unset, .unset, .unset, .unset] [])) t ∧ _
  refine own_go (fun _ => XS.iload X1.here hx rfl (hb hby at_29) rfl) ?_
  refine own_go (fun _ => XS.iloadN X1.here hx rfl (hb hby at_31) rfl) ?_
  refine own_go (fun _ => XS.iconst X1.here hx rfl (hb hby at_32)) ?_
  refine own_go (fun _ => XS.iushr X1.here hx rfl (hb hby at_33) rfl) ?_
  refine own_go (fun _ => XS.bipush X1.here hx rfl (hb hby at_34)) ?_
  refine own_go (fun _ => XS.iand X1.here hx rfl (hb hby at_36) rfl) ?_
  refine own_go (fun _ => XS.iadd X1.here hx rfl (hb hby at_37) rfl) ?_
  refine own_go (fun _ => XS.istore X1.here hx rfl (hb hby at_38) rfl (l' := #[.val (.int xn), .val (.int xk), .val (.int xp), .val (.int xu), .val (.int xv), .val (.int ns), .val (.int kk), .val (.int r1_1), .val (.int ta1), .val (.int (ta1 + (((xu.toUInt32 >>> ((4 : Int32) &&& 31).toUInt32).toInt32) &&& (15 : Int32)))), .unset, .unset, .unset, .unset, .unset, .unset]) rfl) ?_
  show ∃ t o, Steps p.tables e below (T1.setTop (mkF m 40 #[.val (.int xn), .val (.int xk), .val (.int xp), .val (.int xu), .val (.int xv), .val (.int ns), .val (.int kk), .val (.int r1_1), .val (.int ta1), .val (.int (ta1 + (((xu.toUInt32 >>> ((4 : Int32) &&& 31).toUInt32).toInt32) &&& (15 : Int32)))), .unset, .unset, .unset, .unset, .unset, .unset] [])) t ∧ _
  obtain ⟨ta2, e_ta2⟩ : ∃ z : Int32, z = (ta1 + (((xu.toUInt32 >>> ((4 : Int32) &&& 31).toUInt32).toInt32) &&& (15 : Int32))) := ⟨_, rfl⟩
  rw [← e_ta2]
  have b_ta2 : ta1.toInt ≤ ta2.toInt ∧ ta2.toInt ≤ 15 + 15 := by rw [e_ta2]; exact own_tt 15 b_ta1.1 b_ta1.2 (by decide)
  show ∃ t o, Steps p.tables e below (T1.setTop (mkF m 40 #[.val (.int xn), .val (.int xk), .val (.int xp), .val (.int xu), .val (.int xv), .val (.int ns), .val (.int kk), .val (.int r1_1), .val (.int ta1), .val (.int ta2), .unset, .unset, .unset, .unset, .unset, .unset] [])) t ∧ _
  refine own_go (fun _ => XS.iload X1.here hx rfl (hb hby at_40) rfl) ?_
  refine own_go (fun _ => XS.iloadN X1.here hx rfl (hb hby at_42) rfl) ?_
  refine own_go (fun _ => XS.bipush X1.here hx rfl (hb hby at_43)) ?_
  refine own_go (fun _ => XS.iushr X1.here hx rfl (hb hby at_45) rfl) ?_
  refine own_go (fun _ => XS.bipush X1.here hx rfl (hb hby at_46)) ?_
  refine own_go (fun _ => XS.iand X1.here hx rfl (hb hby at_48) rfl) ?_
  refine own_go (fun _ => XS.iadd X1.here hx rfl (hb hby at_49) rfl) ?_
  refine own_go (fun _ => XS.istore X1.here hx rfl (hb hby at_50) rfl (l' := #[.val (.int xn), .val (.int xk), .val (.int xp), .val (.int xu), .val (.int xv), .val (.int ns), .val (.int kk), .val (.int r1_1), .val (.int ta1), .val (.int ta2), .val (.int (ta2 + (((xu.toUInt32 >>> ((8 : Int32) &&& 31).toUInt32).toInt32) &&& (15 : Int32)))), .unset, .unset, .unset, .unset, .unset]) rfl) ?_
  show ∃ t o, Steps p.tables e below (T1.setTop (mkF m 52 #[.val (.int xn), .val (.int xk), .val (.int xp), .val (.int xu), .val (.int xv), .val (.int ns), .val (.int kk), .val (.int r1_1), .val (.int ta1), .val (.int ta2), .val (.int (ta2 + (((xu.toUInt32 >>> ((8 : Int32) &&& 31).toUInt32).toInt32) &&& (15 : Int32)))), .unset, .unset, .unset, .unset, .unset] [])) t ∧ _
  obtain ⟨ta3, e_ta3⟩ : ∃ z : Int32, z = (ta2 + (((xu.toUInt32 >>> ((8 : Int32) &&& 31).toUInt32).toInt32) &&& (15 : Int32))) := ⟨_, rfl⟩
  rw [← e_ta3]
  have b_ta3 : ta2.toInt ≤ ta3.toInt ∧ ta3.toInt ≤ 30 + 15 := by rw [e_ta3]; exact own_tt 30 (by omega) (by omega) (by decide)
  show ∃ t o, Steps p.tables e below (T1.setTop (mkF m 52 #[.val (.int xn), .val (.int xk), .val (.int xp), .val (.int xu), .val (.int xv), .val (.int ns), .val (.int kk), .val (.int r1_1), .val (.int ta1), .val (.int ta2), .val (.int ta3), .unset, .unset, .unset, .unset, .unset] [])) t ∧ _
  refine own_go (fun _ => XS.iload X1.here hx rfl (hb hby at_52) rfl) ?_
  refine own_go (fun _ => XS.bipush X1.here hx rfl (hb hby at_54)) ?_
  refine own_go (fun _ => XS.iand X1.here hx rfl (hb hby at_56) rfl) ?_
  refine own_go (fun _ => XS.iload X1.here hx rfl (hb hby at_57) rfl) ?_
  refine own_go (fun _ => iremM X1 hx rfl (hb hby at_59) rfl h18.nz.1) ?_
  refine own_go (fun _ => XS.istore X1.here hx rfl (hb hby at_60) rfl (l' := #[.val (.int xn), .val (.int xk), .val (.int xp), .val (.int xu), .val (.int xv), .val (.int ns), .val (.int kk), .val (.int r1_1), .val (.int ta1), .val (.int ta2), .val (.int ta3), .val (.int ((xv &&& (7 : Int32)) % ns)), .unset, .unset, .unset, .unset]) rfl) ?_
  show ∃ t o, Steps p.tables e below (T1.setTop (mkF m 62 #[.val (.int xn), .val (.int xk), .val (.int xp), .val (.int xu), .val (.int xv), .val (.int ns), .val (.int kk), .val (.int r1_1), .val (.int ta1), .val (.int ta2), .val (.int ta3), .val (.int ((xv &&& (7 : Int32)) % ns)), .unset, .unset, .unset, .unset] [])) t ∧ _
  obtain ⟨sv1, e_sv1⟩ : ∃ z : Int32, z = ((xv &&& (7 : Int32)) % ns) := ⟨_, rfl⟩
  rw [← e_sv1]
  show ∃ t o, Steps p.tables e below (T1.setTop (mkF m 62 #[.val (.int xn), .val (.int xk), .val (.int xp), .val (.int xu), .val (.int xv), .val (.int ns), .val (.int kk), .val (.int r1_1), .val (.int ta1), .val (.int ta2), .val (.int ta3), .val (.int sv1), .unset, .unset, .unset, .unset] [])) t ∧ _
  refine own_go (fun _ => XS.iload X1.here hx rfl (hb hby at_62) rfl) ?_
  refine own_go (fun _ => XS.iconst X1.here hx rfl (hb hby at_64)) ?_
  refine own_go (fun _ => XS.iushr X1.here hx rfl (hb hby at_65) rfl) ?_
  refine own_go (fun _ => XS.bipush X1.here hx rfl (hb hby at_66)) ?_
  refine own_go (fun _ => XS.iand X1.here hx rfl (hb hby at_68) rfl) ?_
  refine own_go (fun _ => XS.iload X1.here hx rfl (hb hby at_69) rfl) ?_
  refine own_go (fun _ => iremM X1 hx rfl (hb hby at_71) rfl h18.nz.1) ?_
  refine own_go (fun _ => XS.istore X1.here hx rfl (hb hby at_72) rfl (l' := #[.val (.int xn), .val (.int xk), .val (.int xp), .val (.int xu), .val (.int xv), .val (.int ns), .val (.int kk), .val (.int r1_1), .val (.int ta1), .val (.int ta2), .val (.int ta3), .val (.int sv1), .val (.int ((((xv.toUInt32 >>> ((3 : Int32) &&& 31).toUInt32).toInt32) &&& (7 : Int32)) % ns)), .unset, .unset, .unset]) rfl) ?_
  show ∃ t o, Steps p.tables e below (T1.setTop (mkF m 74 #[.val (.int xn), .val (.int xk), .val (.int xp), .val (.int xu), .val (.int xv), .val (.int ns), .val (.int kk), .val (.int r1_1), .val (.int ta1), .val (.int ta2), .val (.int ta3), .val (.int sv1), .val (.int ((((xv.toUInt32 >>> ((3 : Int32) &&& 31).toUInt32).toInt32) &&& (7 : Int32)) % ns)), .unset, .unset, .unset] [])) t ∧ _
  obtain ⟨sv2, e_sv2⟩ : ∃ z : Int32, z = ((((xv.toUInt32 >>> ((3 : Int32) &&& 31).toUInt32).toInt32) &&& (7 : Int32)) % ns) := ⟨_, rfl⟩
  rw [← e_sv2]
  show ∃ t o, Steps p.tables e below (T1.setTop (mkF m 74 #[.val (.int xn), .val (.int xk), .val (.int xp), .val (.int xu), .val (.int xv), .val (.int ns), .val (.int kk), .val (.int r1_1), .val (.int ta1), .val (.int ta2), .val (.int ta3), .val (.int sv1), .val (.int sv2), .unset, .unset, .unset] [])) t ∧ _
  refine own_go (fun _ => XS.iload X1.here hx rfl (hb hby at_74) rfl) ?_
  refine own_go (fun _ => XS.bipush X1.here hx rfl (hb hby at_76)) ?_
  refine own_go (fun _ => XS.iushr X1.here hx rfl (hb hby at_78) rfl) ?_
  refine own_go (fun _ => XS.bipush X1.here hx rfl (hb hby at_79)) ?_
  refine own_go (fun _ => XS.iand X1.here hx rfl (hb hby at_81) rfl) ?_
  refine own_go (fun _ => XS.iload X1.here hx rfl (hb hby at_82) rfl) ?_
  refine own_go (fun _ => iremM X1 hx rfl (hb hby at_84) rfl h18.nz.1) ?_
  refine own_go (fun _ => XS.istore X1.here hx rfl (hb hby at_85) rfl (l' := #[.val (.int xn), .val (.int xk), .val (.int xp), .val (.int xu), .val (.int xv), .val (.int ns), .val (.int kk), .val (.int r1_1), .val (.int ta1), .val (.int ta2), .val (.int ta3), .val (.int sv1), .val (.int sv2), .val (.int ((((xv.toUInt32 >>> ((6 : Int32) &&& 31).toUInt32).toInt32) &&& (7 : Int32)) % ns)), .unset, .unset]) rfl) ?_
  show ∃ t o, Steps p.tables e below (T1.setTop (mkF m 87 #[.val (.int xn), .val (.int xk), .val (.int xp), .val (.int xu), .val (.int xv), .val (.int ns), .val (.int kk), .val (.int r1_1), .val (.int ta1), .val (.int ta2), .val (.int ta3), .val (.int sv1), .val (.int sv2), .val (.int ((((xv.toUInt32 >>> ((6 : Int32) &&& 31).toUInt32).toInt32) &&& (7 : Int32)) % ns)), .unset, .unset] [])) t ∧ _
  obtain ⟨sv3, e_sv3⟩ : ∃ z : Int32, z = ((((xv.toUInt32 >>> ((6 : Int32) &&& 31).toUInt32).toInt32) &&& (7 : Int32)) % ns) := ⟨_, rfl⟩
  rw [← e_sv3]
  show ∃ t o, Steps p.tables e below (T1.setTop (mkF m 87 #[.val (.int xn), .val (.int xk), .val (.int xp), .val (.int xu), .val (.int xv), .val (.int ns), .val (.int kk), .val (.int r1_1), .val (.int ta1), .val (.int ta2), .val (.int ta3), .val (.int sv1), .val (.int sv2), .val (.int sv3), .unset, .unset] [])) t ∧ _
  obtain ⟨T2, h2, X2, e2, E2, A2, D2, -, st2⟩ := newO X1 hx hZ hown (hw _ (List.mem_of_getElem? (i := 4) rfl)) (hw _ (List.mem_of_getElem? (i := 5) rfl)) w_6 e1 (g := (mkF m 87 #[.val (.int xn), .val (.int xk), .val (.int xp), .val (.int xu), .val (.int xv), .val (.int ns), .val (.int kk), .val (.int r1_1), .val (.int ta1), .val (.int ta2), .val (.int ta3), .val (.int sv1), .val (.int sv2), .val (.int sv3), .unset, .unset] [])) rfl (hb hby at_87) (by decide) (by decide)
  obtain ⟨b2, g2⟩ : ∃ z, z = h0.size := ⟨_, rfl⟩
  rw [← g2] at A2 D2 st2
  refine own_go st2 ?_
  have le_2 : h0.size ≤ h2.size := E2.1
  have lt_b2 : b2 < h2.size := A2.lt
  have F_streams_b2 : Fld Z h2 b2 "com/example/holdback/holdback/sim/EventQueue" "streams" "[Lcom/example/holdback/holdback/sim/EventQueue$Stream;" .null := D2 (Or.inr (hw _ (List.mem_of_getElem? (i := 28) rfl))) (ty := (.array (.object "com/example/holdback/holdback/sim/EventQueue$Stream"))) (by decide)
  have F_firstAt_b2 : Fld Z h2 b2 "com/example/holdback/holdback/sim/EventQueue" "firstAt" "[D" .null := D2 (Or.inr (hw _ (List.mem_of_getElem? (i := 31) rfl))) (ty := (.array .double)) (by decide)
  have F_firstPlace_b2 : Fld Z h2 b2 "com/example/holdback/holdback/sim/EventQueue" "firstPlace" "[J" .null := D2 (Or.inr (hw _ (List.mem_of_getElem? (i := 34) rfl))) (ty := (.array .long)) (by decide)
  have F_winners_b2 : Fld Z h2 b2 "com/example/holdback/holdback/sim/EventQueue" "winners" "[I" .null := D2 (Or.inr (hw _ (List.mem_of_getElem? (i := 37) rfl))) (ty := (.array .int)) (by decide)
  have F_size_b2 : Fld Z h2 b2 "com/example/holdback/holdback/sim/EventQueue" "size" "I" (.int (0 : Int32)) := D2 (Or.inl (hw _ (List.mem_of_getElem? (i := 78) rfl))) (ty := .int) (by decide)
  have F_scheduled_b2 : Fld Z h2 b2 "com/example/holdback/holdback/sim/EventQueue" "scheduled" "J" (.long (0 : Int64)) := D2 (Or.inl (hw _ (List.mem_of_getElem? (i := 87) rfl))) (ty := .long) (by decide)
  have K2 : Keep h0 h2 (own_up n0 h0) := Keep.ext (Keep.refl h0 (own_up n0 h0)) E2
  refine own_go (fun _ => XS.dup X2.here hx rfl (hb hby at_90) rfl rfl) ?_
  refine own_go (fun _ => XS.iload X2.here hx rfl (hb hby at_91) rfl) ?_
  show ∃ t o, Steps p.tables e below (T2.setTop (mkF m 93 #[.val (.int xn), .val (.int xk), .val (.int xp), .val (.int xu), .val (.int xv), .val (.int ns), .val (.int kk), .val (.int r1_1), .val (.int ta1), .val (.int ta2), .val (.int ta3), .val (.int sv1), .val (.int sv2), .val (.int sv3), .unset, .unset] [(.int ns), (.ref b2), (.ref b2)])) t ∧ _
  have F3 := (OLD.ext E2)
  have ge4 : n0 ≤ b2 := by omega
  have zl5 : n0 ≤ h2.size := by omega
  obtain ⟨_, _, ⟨T6, L6, k6, n6⟩, -, X6, ⟨Lc6, hQ6, l6, y6, z6⟩, st6⟩ := X2.specialBack hx (y := (⟨"com/example/holdback/holdback/sim/EventQueue", "<init>", "(I)V"⟩ : MethodName)) rfl hown (mvT hZ (hw _ (List.mem_of_getElem? (i := 7) rfl))) (mvT hZ (hw _ (List.mem_of_getElem? (i := 8) rfl))) (mvT hZ w_9) (by decide) (backOf (W := 1) (rmQI l Z a0 hw [] b2 ns h2 n0 zl5 A2 F_streams_b2 F_firstAt_b2 F_firstPlace_b2 F_winners_b2 F_size_b2 F_scheduled_b2 F3 (h18 : own_18 ns) ge4) hZ w_9 w_6 (by decide) (by decide)) (g := (mkF m 93 #[.val (.int xn), .val (.int xk), .val (.int xp), .val (.int xu), .val (.int xv), .val (.int ns), .val (.int kk), .val (.int r1_1), .val (.int ta1), .val (.int ta2), .val (.int ta3), .val (.int sv1), .val (.int sv2), .val (.int sv3), .unset, .unset] [(.int ns), (.ref b2), (.ref b2)])) rfl (by rw [hml]; rfl) (Steps.refl _) (a := b2) (argsL := [(.int ns)]) (rest := [(.ref b2)]) (lenOf pd__28I_29V rfl) rfl (by show 2 * 0 + _ ≤ _; exact Nat.le_of_eq rfl) (hb hby at_93) (fun _ _ => ⟨rfl, e2, (by decide : 1 + 36 ≤ _), (by decide : 6 + 280 ≤ _)⟩)
  dsimp only [Pt.U, Pt.locs, Pt.cells, Pt.slots] at X6 l6 y6 z6 st6 hQ6
  rw [l6, y6, z6] at X6
  obtain ⟨ss_6, fa_6, fp_6, wi_6, ks_6, kf_6, kp_6, kw_6, vs_6, ds_6, ls_6, wl_6, ff_6, zN_6, z2_6, rfl, Nq6, Kp6, G6_0, G6_1, G6_2, G6_3, G6_4, G6_5, G6_6, G6_7, G6_8, G6_9, G6_10, G6_11, H6_0, H6_1, H6_2, H6_3, H6_4, H6_5, H6_6, H6_7, H6_8, H6_9, H6_10⟩ := hQ6
  have N6 := Fr.app N1 Nq6
  refine own_goT st6 ?_
  have le_6 : h2.size ≤ T6.heap.size := Kp6.1
  have K6 : Keep h0 T6.heap (own_up n0 h0) := Keep.trans K2 Kp6 (allS (own_up_or ge4) all0)
  have lt_ss_6 : ss_6 < T6.heap.size := (G6_8).lt
  have lt_fa_6 : fa_6 < T6.heap.size := (G6_4).lt
  have lt_fp_6 : fp_6 < T6.heap.size := (G6_5).lt
  have lt_wi_6 : wi_6 < T6.heap.size := (G6_6).lt
  refine own_go (fun _ => XS.astore X6.here hx rfl (hb hby at_96) rfl rfl (l' := #[.val (.int xn), .val (.int xk), .val (.int xp), .val (.int xu), .val (.int xv), .val (.int ns), .val (.int kk), .val (.int r1_1), .val (.int ta1), .val (.int ta2), .val (.int ta3), .val (.int sv1), .val (.int sv2), .val (.int sv3), .val (.ref b2), .unset]) rfl) ?_
  refine own_go (fun _ => XS.aload X6.here hx rfl (hb hby at_98) rfl rfl) ?_
  show ∃ t o, Steps p.tables e below (T6.setTop (mkF m 100 #[.val (.int xn), .val (.int xk), .val (.int xp), .val (.int xu), .val (.int xv), .val (.int ns), .val (.int kk), .val (.int r1_1), .val (.int ta1), .val (.int ta2), .val (.int ta3), .val (.int sv1), .val (.int sv2), .val (.int sv3), .val (.ref b2), .unset] [(.ref b2)])) t ∧ _
  have F7 := (Old.keep F3 Kp6 (allS ge4 all0))
  have zl8 : n0 ≤ T6.heap.size := by omega
  obtain ⟨cq9, kq9, q9a, q9b, q9c⟩ := isOf hZ rfl G6_0
  obtain ⟨_, _, ⟨T9, L9, k9, n9⟩, -, X9, ⟨Lc9, hQ9, l9, y9, z9⟩, st9⟩ := X6.virtualBack hx (y := (⟨"com/example/holdback/holdback/sim/EventQueue", "isEmpty", "()Z"⟩ : MethodName)) (z := (⟨"com/example/holdback/holdback/sim/EventQueue", "isEmpty", "()Z"⟩ : MethodName)) hown (mvT hZ w_72) (mvT hZ w_73) (notFace_of_selects (args := #[]) (mvT hZ w_75)) (mvT hZ w_75) (mvT hZ w_74) (by decide) (backOf (W := 0) (rmE0 l Z a0 hw [] b2 T6.heap n0 zl8 G6_10 F7) hZ w_76 w_6 (by decide) (by decide)) q9a q9c (g := (mkF m 100 #[.val (.int xn), .val (.int xk), .val (.int xp), .val (.int xu), .val (.int xv), .val (.int ns), .val (.int kk), .val (.int r1_1), .val (.int ta1), .val (.int ta2), .val (.int ta3), .val (.int sv1), .val (.int sv2), .val (.int sv3), .val (.ref b2), .unset] [(.ref b2)])) rfl (by rw [hml]; rfl) (Steps.refl _) (argsL := []) (rest := []) (lenOf pd__28_29Z rfl) rfl (by show 2 * 0 + _ ≤ _; exact Nat.le_of_eq rfl) (hb hby at_100) (fun _ _ => ⟨rfl, rfl, (by decide : 37 + 0 ≤ _), (by decide : 286 + 0 ≤ _)⟩)
  dsimp only [Pt.U, Pt.locs, Pt.cells, Pt.slots] at X9 l9 y9 z9 st9 hQ9
  rw [l9, y9, z9] at X9
  obtain ⟨rfl, Nq9, e9⟩ := hQ9
  have N9 := Fr.app N6 Nq9
  refine own_goT st9 ?_
  refine own_go (fun _ => XS.istore X9.here hx rfl (hb hby at_103) rfl (l' := #[.val (.int xn), .val (.int xk), .val (.int xp), .val (.int xu), .val (.int xv), .val (.int ns), .val (.int kk), .val (.int r1_1), .val (.int ta1), .val (.int ta2), .val (.int ta3), .val (.int sv1), .val (.int sv2), .val (.int sv3), .val (.ref b2), .val (.int (1 : Int32))]) rfl) ?_
  refine own_go (fun _ => XS.iload X9.here hx rfl (hb hby at_105) rfl) ?_
  refine own_go (fun _ => XS.iconst X9.here hx rfl (hb hby at_107)) ?_
  show ∃ t o, Steps p.tables e below (T9.setTop (mkF m 108 #[.val (.int xn), .val (.int xk), .val (.int xp), .val (.int xu), .val (.int xv), .val (.int ns), .val (.int kk), .val (.int r1_1), .val (.int ta1), .val (.int ta2), .val (.int ta3), .val (.int sv1), .val (.int sv2), .val (.int sv3), .val (.ref b2), .val (.int (1 : Int32))] [(.int (1 : Int32)), (.int kk)])) t ∧ _
  rcases hkk with rfl | rfl | rfl | rfl
  · show ∃ t o, Steps p.tables e below (T9.setTop (mkF m 108 #[.val (.int xn), .val (.int xk), .val (.int xp), .val (.int xu), .val (.int xv), .val (.int ns), .val (.int (0 : Int32)), .val (.int r1_1), .val (.int ta1), .val (.int ta2), .val (.int ta3), .val (.int sv1), .val (.int sv2), .val (.int sv3), .val (.ref b2), .val (.int (1 : Int32))] [(.int (1 : Int32)), (.int (0 : Int32))])) t ∧ _
    show ∃ t o, Steps p.tables e below (T9.setTop (mkF m 108 #[.val (.int xn), .val (.int xk), .val (.int xp), .val (.int xu), .val (.int xv), .val (.int ns), .val (.int (0 : Int32)), .val (.int r1_1), .val (.int ta1), .val (.int ta2), .val (.int ta3), .val (.int sv1), .val (.int sv2), .val (.int sv3), .val (.ref b2), .val (.int (1 : Int32))] [(.int (1 : Int32)), (.int (0 : Int32))])) t ∧ _
    refine own_go (fun _ => XS.icmpYes X9.here hx rfl (pc0 := 108) (pc' := 122) rfl (hb hby at_108) rfl (tlt (by decide : (0 : Int32) < (1 : Int32))).1 (by decide) (by decide)) ?_
    refine own_go (fun _ => XS.iload X9.here hx rfl (hb hby at_122) rfl) ?_
    refine own_go (fun _ => XS.iconst X9.here hx rfl (hb hby at_124)) ?_
    show ∃ t o, Steps p.tables e below (T9.setTop (mkF m 125 #[.val (.int xn), .val (.int xk), .val (.int xp), .val (.int xu), .val (.int xv), .val (.int ns), .val (.int (0 : Int32)), .val (.int r1_1), .val (.int ta1), .val (.int ta2), .val (.int ta3), .val (.int sv1), .val (.int sv2), .val (.int sv3), .val (.ref b2), .val (.int (1 : Int32))] [(.int (2 : Int32)), (.int (0 : Int32))])) t ∧ _
    refine own_go (fun _ => XS.icmpYes X9.here hx rfl (pc0 := 125) (pc' := 139) rfl (hb hby at_125) rfl (tlt (by decide : (0 : Int32) < (2 : Int32))).1 (by decide) (by decide)) ?_
    refine own_go (fun _ => XS.iload X9.here hx rfl (hb hby at_139) rfl) ?_
    refine own_go (fun _ => XS.iconst X9.here hx rfl (hb hby at_141)) ?_
    show ∃ t o, Steps p.tables e below (T9.setTop (mkF m 142 #[.val (.int xn), .val (.int xk), .val (.int xp), .val (.int xu), .val (.int xv), .val (.int ns), .val (.int (0 : Int32)), .val (.int r1_1), .val (.int ta1), .val (.int ta2), .val (.int ta3), .val (.int sv1), .val (.int sv2), .val (.int sv3), .val (.ref b2), .val (.int (1 : Int32))] [(.int (3 : Int32)), (.int (0 : Int32))])) t ∧ _
    refine own_go (fun _ => XS.icmpYes X9.here hx rfl (pc0 := 142) (pc' := 156) rfl (hb hby at_142) rfl (tlt (by decide : (0 : Int32) < (3 : Int32))).1 (by decide) (by decide)) ?_
    refine own_go (fun _ => XS.iload X9.here hx rfl (hb hby at_156) rfl) ?_
    show ∃ t o, Steps p.tables e below (T9.setTop (mkF m 158 #[.val (.int xn), .val (.int xk), .val (.int xp), .val (.int xu), .val (.int xv), .val (.int ns), .val (.int (0 : Int32)), .val (.int r1_1), .val (.int ta1), .val (.int ta2), .val (.int ta3), .val (.int sv1), .val (.int sv2), .val (.int sv3), .val (.ref b2), .val (.int (1 : Int32))] [(.int (1 : Int32))])) t ∧ _
    refine own_go (fun _ => XS.ifNo X9.here hx rfl (hb hby at_158) rfl ((if0 _ _).trans (feq (by decide : ¬ ((1 : Int32) = (0 : Int32)))).1)) ?_
    refine own_go (fun _ => XS.aload X9.here hx rfl (hb hby at_161) rfl rfl) ?_
    show ∃ t o, Steps p.tables e below (T9.setTop (mkF m 163 #[.val (.int xn), .val (.int xk), .val (.int xp), .val (.int xu), .val (.int xv), .val (.int ns), .val (.int (0 : Int32)), .val (.int r1_1), .val (.int ta1), .val (.int ta2), .val (.int ta3), .val (.int sv1), .val (.int sv2), .val (.int sv3), .val (.ref b2), .val (.int (1 : Int32))] [(.ref b2)])) t ∧ _
    obtain ⟨cq10, kq10, q10a, q10b, q10c⟩ := isOf hZ e9 G6_0
    obtain ⟨_, _, ⟨T10, L10, k10, n10⟩, -, X10, ⟨Lc10, hQ10, l10, y10, z10⟩, st10⟩ := X9.virtualBack hx (y := (⟨"com/example/holdback/holdback/sim/EventQueue", "isEmpty", "()Z"⟩ : MethodName)) (z := (⟨"com/example/holdback/holdback/sim/EventQueue", "isEmpty", "()Z"⟩ : MethodName)) hown (mvT hZ w_72) (mvT hZ w_73) (notFace_of_selects (args := #[]) (mvT hZ w_75)) (mvT hZ w_75) (mvT hZ w_74) (by decide) (backOf (W := 0) (rmE0 l Z a0 hw [] b2 T6.heap n0 zl8 G6_10 F7) hZ w_76 w_6 (by decide) (by decide)) q10a q10c (g := (mkF m 163 #[.val (.int xn), .val (.int xk), .val (.int xp), .val (.int xu), .val (.int xv), .val (.int ns), .val (.int (0 : Int32)), .val (.int r1_1), .val (.int ta1), .val (.int ta2), .val (.int ta3), .val (.int sv1), .val (.int sv2), .val (.int sv3), .val (.ref b2), .val (.int (1 : Int32))] [(.ref b2)])) rfl (by rw [hml]; rfl) (Steps.refl _) (argsL := []) (rest := []) (lenOf pd__28_29Z rfl) rfl (by show 2 * 0 + _ ≤ _; exact Nat.le_of_eq rfl) (hb hby at_163) (fun _ _ => ⟨rfl, e9, (by decide : 37 + 0 ≤ _), (by decide : 286 + 0 ≤ _)⟩)
    dsimp only [Pt.U, Pt.locs, Pt.cells, Pt.slots] at X10 l10 y10 z10 st10 hQ10
    rw [l10, y10, z10] at X10
    obtain ⟨rfl, Nq10, e10⟩ := hQ10
    have N10 := Fr.app N9 Nq10
    refine own_goT st10 ?_
    refine own_go (fun _ => XS.iload X10.here hx rfl (hb hby at_166) rfl) ?_
    show ∃ t o, Steps p.tables e below (T10.setTop (mkF m 168 #[.val (.int xn), .val (.int xk), .val (.int xp), .val (.int xu), .val (.int xv), .val (.int ns), .val (.int (0 : Int32)), .val (.int r1_1), .val (.int ta1), .val (.int ta2), .val (.int ta3), .val (.int sv1), .val (.int sv2), .val (.int sv3), .val (.ref b2), .val (.int (1 : Int32))] [(.int (0 : Int32)), (.int (1 : Int32))])) t ∧ _
    refine own_go (fun _ => XS.ifNo X10.here hx rfl (hb hby at_168) rfl ((if0 _ _).trans (teq (by decide : (0 : Int32) = (0 : Int32))).2)) ?_
    refine own_go (fun _ => XS.iconst X10.here hx rfl (hb hby at_171)) ?_
    refine own_go (fun _ => XS.goto X10.here hx rfl (pc0 := 172) (pc' := 176) rfl (hb hby at_172) (by decide) (by decide)) ?_
    show ∃ t o, Steps p.tables e below (T10.setTop (mkF m 176 #[.val (.int xn), .val (.int xk), .val (.int xp), .val (.int xu), .val (.int xv), .val (.int ns), .val (.int (0 : Int32)), .val (.int r1_1), .val (.int ta1), .val (.int ta2), .val (.int ta3), .val (.int sv1), .val (.int sv2), .val (.int sv3), .val (.ref b2), .val (.int (1 : Int32))] [(.int (1 : Int32)), (.int (1 : Int32))])) t ∧ _
    refine own_go (fun _ => XS.icmpNo X10.here hx rfl (hb hby at_176) rfl (teq (by decide : (1 : Int32) = (1 : Int32))).2) ?_
    refine own_go (fun _ => XS.iconst X10.here hx rfl (hb hby at_179)) ?_
    refine own_go (fun _ => XS.goto X10.here hx rfl (pc0 := 180) (pc' := 184) rfl (hb hby at_180) (by decide) (by decide)) ?_
    refine own_go (fun _ => XS.istore X10.here hx rfl (hb hby at_184) rfl (l' := #[.val (.int xn), .val (.int xk), .val (.int xp), .val (.int xu), .val (.int xv), .val (.int ns), .val (.int (0 : Int32)), .val (.int r1_1), .val (.int ta1), .val (.int ta2), .val (.int ta3), .val (.int sv1), .val (.int sv2), .val (.int sv3), .val (.ref b2), .val (.int (1 : Int32))]) rfl) ?_
    refine own_go (fun _ => XS.iload X10.here hx rfl (hb hby at_186) rfl) ?_
    refine own_go (fun _ => XS.iconst X10.here hx rfl (hb hby at_188)) ?_
    show ∃ t o, Steps p.tables e below (T10.setTop (mkF m 189 #[.val (.int xn), .val (.int xk), .val (.int xp), .val (.int xu), .val (.int xv), .val (.int ns), .val (.int (0 : Int32)), .val (.int r1_1), .val (.int ta1), .val (.int ta2), .val (.int ta3), .val (.int sv1), .val (.int sv2), .val (.int sv3), .val (.ref b2), .val (.int (1 : Int32))] [(.int (1 : Int32)), (.int r1_1)])) t ∧ _
    have hj : r1_1 = (0 : Int32) := by rw [H1_0]; rcases own_and3 xp with q | q | q | q <;> rw [q] <;> decide
    rcases hj with hj
    rw [hj]
    show ∃ t o, Steps p.tables e below (T10.setTop (mkF m 189 #[.val (.int xn), .val (.int xk), .val (.int xp), .val (.int xu), .val (.int xv), .val (.int ns), .val (.int (0 : Int32)), .val (.int (0 : Int32)), .val (.int ta1), .val (.int ta2), .val (.int ta3), .val (.int sv1), .val (.int sv2), .val (.int sv3), .val (.ref b2), .val (.int (1 : Int32))] [(.int (1 : Int32)), (.int (0 : Int32))])) t ∧ _
    refine own_go (fun _ => XS.icmpYes X10.here hx rfl (pc0 := 189) (pc' := 198) rfl (hb hby at_189) rfl (tlt (by decide : (0 : Int32) < (1 : Int32))).1 (by decide) (by decide)) ?_
    refine own_go (fun _ => XS.iload X10.here hx rfl (hb hby at_198) rfl) ?_
    refine own_go (fun _ => XS.iconst X10.here hx rfl (hb hby at_200)) ?_
    show ∃ t o, Steps p.tables e below (T10.setTop (mkF m 201 #[.val (.int xn), .val (.int xk), .val (.int xp), .val (.int xu), .val (.int xv), .val (.int ns), .val (.int (0 : Int32)), .val (.int (0 : Int32)), .val (.int ta1), .val (.int ta2), .val (.int ta3), .val (.int sv1), .val (.int sv2), .val (.int sv3), .val (.ref b2), .val (.int (1 : Int32))] [(.int (2 : Int32)), (.int (0 : Int32))])) t ∧ _
    refine own_go (fun _ => XS.icmpYes X10.here hx rfl (pc0 := 201) (pc' := 210) rfl (hb hby at_201) rfl (tlt (by decide : (0 : Int32) < (2 : Int32))).1 (by decide) (by decide)) ?_
    refine own_go (fun _ => XS.iload X10.here hx rfl (hb hby at_210) rfl) ?_
    refine own_go (fun _ => XS.iconst X10.here hx rfl (hb hby at_212)) ?_
    show ∃ t o, Steps p.tables e below (T10.setTop (mkF m 213 #[.val (.int xn), .val (.int xk), .val (.int xp), .val (.int xu), .val (.int xv), .val (.int ns), .val (.int (0 : Int32)), .val (.int (0 : Int32)), .val (.int ta1), .val (.int ta2), .val (.int ta3), .val (.int sv1), .val (.int sv2), .val (.int sv3), .val (.ref b2), .val (.int (1 : Int32))] [(.int (3 : Int32)), (.int (0 : Int32))])) t ∧ _
    refine own_go (fun _ => XS.icmpYes X10.here hx rfl (pc0 := 213) (pc' := 222) rfl (hb hby at_213) rfl (tlt (by decide : (0 : Int32) < (3 : Int32))).1 (by decide) (by decide)) ?_
    refine own_go (fun _ => XS.iload X10.here hx rfl (hb hby at_222) rfl) ?_
    show ∃ t o, Steps p.tables e below (T10.setTop (mkF m 224 #[.val (.int xn), .val (.int xk), .val (.int xp), .val (.int xu), .val (.int xv), .val (.int ns), .val (.int (0 : Int32)), .val (.int (0 : Int32)), .val (.int ta1), .val (.int ta2), .val (.int ta3), .val (.int sv1), .val (.int sv2), .val (.int sv3), .val (.ref b2), .val (.int (1 : Int32))] [(.int (1 : Int32))])) t ∧ _
    refine own_go (fun _ => XS.ifNo X10.here hx rfl (hb hby at_224) rfl ((if0 _ _).trans (feq (by decide : ¬ ((1 : Int32) = (0 : Int32)))).1)) ?_
    refine own_go (fun _ => XS.aload X10.here hx rfl (hb hby at_227) rfl rfl) ?_
    show ∃ t o, Steps p.tables e below (T10.setTop (mkF m 229 #[.val (.int xn), .val (.int xk), .val (.int xp), .val (.int xu), .val (.int xv), .val (.int ns), .val (.int (0 : Int32)), .val (.int (0 : Int32)), .val (.int ta1), .val (.int ta2), .val (.int ta3), .val (.int sv1), .val (.int sv2), .val (.int sv3), .val (.ref b2), .val (.int (1 : Int32))] [(.ref b2)])) t ∧ _
    obtain ⟨cq11, kq11, q11a, q11b, q11c⟩ := isOf hZ e10 G6_0
    obtain ⟨_, _, ⟨T11, L11, k11, n11⟩, -, X11, ⟨Lc11, hQ11, l11, y11, z11⟩, st11⟩ := X10.virtualBack hx (y := (⟨"com/example/holdback/holdback/sim/EventQueue", "isEmpty", "()Z"⟩ : MethodName)) (z := (⟨"com/example/holdback/holdback/sim/EventQueue", "isEmpty", "()Z"⟩ : MethodName)) hown (mvT hZ w_72) (mvT hZ w_73) (notFace_of_selects (args := #[]) (mvT hZ w_75)) (mvT hZ w_75) (mvT hZ w_74) (by decide) (backOf (W := 0) (rmE0 l Z a0 hw [] b2 T6.heap n0 zl8 G6_10 F7) hZ w_76 w_6 (by decide) (by decide)) q11a q11c (g := (mkF m 229 #[.val (.int xn), .val (.int xk), .val (.int xp), .val (.int xu), .val (.int xv), .val (.int ns), .val (.int (0 : Int32)), .val (.int (0 : Int32)), .val (.int ta1), .val (.int ta2), .val (.int ta3), .val (.int sv1), .val (.int sv2), .val (.int sv3), .val (.ref b2), .val (.int (1 : Int32))] [(.ref b2)])) rfl (by rw [hml]; rfl) (Steps.refl _) (argsL := []) (rest := []) (lenOf pd__28_29Z rfl) rfl (by show 2 * 0 + _ ≤ _; exact Nat.le_of_eq rfl) (hb hby at_229) (fun _ _ => ⟨rfl, e10, (by decide : 37 + 0 ≤ _), (by decide : 286 + 0 ≤ _)⟩)
    dsimp only [Pt.U, Pt.locs, Pt.cells, Pt.slots] at X11 l11 y11 z11 st11 hQ11
    rw [l11, y11, z11] at X11
    obtain ⟨rfl, Nq11, e11⟩ := hQ11
    have N11 := Fr.app N10 Nq11
    refine own_goT st11 ?_
    refine own_go (fun _ => XS.iload X11.here hx rfl (hb hby at_232) rfl) ?_
    refine own_go (fun _ => XS.iload X11.here hx rfl (hb hby at_234) rfl) ?_
    refine own_go (fun _ => XS.isub X11.here hx rfl (hb hby at_236) rfl) ?_
    show ∃ t o, Steps p.tables e below (T11.setTop (mkF m 237 #[.val (.int xn), .val (.int xk), .val (.int xp), .val (.int xu), .val (.int xv), .val (.int ns), .val (.int (0 : Int32)), .val (.int (0 : Int32)), .val (.int ta1), .val (.int ta2), .val (.int ta3), .val (.int sv1), .val (.int sv2), .val (.int sv3), .val (.ref b2), .val (.int (1 : Int32))] [(.int (0 : Int32)), (.int (1 : Int32))])) t ∧ _
    refine own_go (fun _ => XS.ifNo X11.here hx rfl (hb hby at_237) rfl ((if0 _ _).trans (teq (by decide : (0 : Int32) = (0 : Int32))).2)) ?_
    refine own_go (fun _ => XS.iconst X11.here hx rfl (hb hby at_240)) ?_
    refine own_go (fun _ => XS.goto X11.here hx rfl (pc0 := 241) (pc' := 245) rfl (hb hby at_241) (by decide) (by decide)) ?_
    show ∃ t o, Steps p.tables e below (T11.setTop (mkF m 245 #[.val (.int xn), .val (.int xk), .val (.int xp), .val (.int xu), .val (.int xv), .val (.int ns), .val (.int (0 : Int32)), .val (.int (0 : Int32)), .val (.int ta1), .val (.int ta2), .val (.int ta3), .val (.int sv1), .val (.int sv2), .val (.int sv3), .val (.ref b2), .val (.int (1 : Int32))] [(.int (1 : Int32)), (.int (1 : Int32))])) t ∧ _
    refine own_go (fun _ => XS.icmpNo X11.here hx rfl (hb hby at_245) rfl (teq (by decide : (1 : Int32) = (1 : Int32))).2) ?_
    refine own_go (fun _ => XS.iconst X11.here hx rfl (hb hby at_248)) ?_
    refine own_go (fun _ => XS.goto X11.here hx rfl (pc0 := 249) (pc' := 253) rfl (hb hby at_249) (by decide) (by decide)) ?_
    refine own_go (fun _ => XS.istore X11.here hx rfl (hb hby at_253) rfl (l' := #[.val (.int xn), .val (.int xk), .val (.int xp), .val (.int xu), .val (.int xv), .val (.int ns), .val (.int (0 : Int32)), .val (.int (0 : Int32)), .val (.int ta1), .val (.int ta2), .val (.int ta3), .val (.int sv1), .val (.int sv2), .val (.int sv3), .val (.ref b2), .val (.int (1 : Int32))]) rfl) ?_
    refine own_go (fun _ => XS.iload X11.here hx rfl (hb hby at_255) rfl) ?_
    show ∃ t o, Steps p.tables e below (T11.setTop (mkF m 257 #[.val (.int xn), .val (.int xk), .val (.int xp), .val (.int xu), .val (.int xv), .val (.int ns), .val (.int (0 : Int32)), .val (.int (0 : Int32)), .val (.int ta1), .val (.int ta2), .val (.int ta3), .val (.int sv1), .val (.int sv2), .val (.int sv3), .val (.ref b2), .val (.int (1 : Int32))] [(.int (1 : Int32))])) t ∧ _
    obtain ⟨fs, hr, hrun, hended, hW, hsame⟩ := X11.leave (v := some (.int (1 : Int32))) (fun h => by rw [Bd.returns] at h; cases h)
    refine ⟨_, _, ?_, hrun, hended, _, _, rfl, ?_, ⟨_, rfl⟩, hW, hsame.mono (by decide) (by decide)⟩
    · exact retN X11 hx (t := .boolean) Bd.returns (by simp) (hb hby at_257) hr
    · show Q_rm0 Z _ _ _ _ _ h0 n0 _ T11.heap _
      rw [e11]
      exact ⟨rfl, N11, K6⟩
  · show ∃ t o, Steps p.tables e below (T9.setTop (mkF m 108 #[.val (.int xn), .val (.int xk), .val (.int xp), .val (.int xu), .val (.int xv), .val (.int ns), .val (.int (1 : Int32)), .val (.int r1_1), .val (.int ta1), .val (.int ta2), .val (.int ta3), .val (.int sv1), .val (.int sv2), .val (.int sv3), .val (.ref b2), .val (.int (1 : Int32))] [(.int (1 : Int32)), (.int (1 : Int32))])) t ∧ _
    show ∃ t o, Steps p.tables e below (T9.setTop (mkF m 108 #[.val (.int xn), .val (.int xk), .val (.int xp), .val (.int xu), .val (.int xv), .val (.int ns), .val (.int (1 : Int32)), .val (.int r1_1), .val (.int ta1), .val (.int ta2), .val (.int ta3), .val (.int sv1), .val (.int sv2), .val (.int sv3), .val (.ref b2), .val (.int (1 : Int32))] [(.int (1 : Int32)), (.int (1 : Int32))])) t ∧ _
    refine own_go (fun _ => XS.icmpNo X9.here hx rfl (hb hby at_108) rfl (flt (by decide : ¬ ((1 : Int32) < (1 : Int32)))).1) ?_
    refine own_go (fun _ => XS.aload X9.here hx rfl (hb hby at_111) rfl rfl) ?_
    refine own_go (fun _ => XS.iload X9.here hx rfl (hb hby at_113) rfl) ?_
    refine own_go (fun _ => XS.iload X9.here hx rfl (hb hby at_115) rfl) ?_
    refine own_go (fun _ => XS.i2dS X9.here hx rfl (hb hby at_117) rfl rfl) ?_
    refine own_go (fun _ => XS.aconstNull X9.here hx rfl (hb hby at_118)) ?_
    show ∃ t o, Steps p.tables e below (T9.setTop (mkF m 119 #[.val (.int xn), .val (.int xk), .val (.int xp), .val (.int xu), .val (.int xv), .val (.int ns), .val (.int (1 : Int32)), .val (.int r1_1), .val (.int ta1), .val (.int ta2), .val (.int ta3), .val (.int sv1), .val (.int sv2), .val (.int sv3), .val (.ref b2), .val (.int (1 : Int32))] [.null, (.double (FP.i2d ta1)), (.int sv1), (.ref b2)])) t ∧ _
    obtain ⟨cq12, kq12, q12a, q12b, q12c⟩ := isOf hZ e9 G6_0
    obtain ⟨_, _, ⟨T12, L12, k12, n12⟩, -, X12, ⟨Lc12, hQ12, l12, y12, z12⟩, st12⟩ := X9.virtualBack hx (y := (⟨"com/example/holdback/holdback/sim/EventQueue", "add", "(IDLjava/lang/Runnable;)V"⟩ : MethodName)) (z := (⟨"com/example/holdback/holdback/sim/EventQueue", "add", "(IDLjava/lang/Runnable;)V"⟩ : MethodName)) hown (mvT hZ w_79) (mvT hZ w_80) (notFace_of_selects (args := #[]) (mvT hZ w_82)) (mvT hZ w_82) (mvT hZ w_81) (by decide) (backOf (W := 0) (rmAdd l Z a0 hw [] b2 fa_6 fp_6 wi_6 kf_6 kp_6 kw_6 ds_6 ls_6 wl_6 zN_6 z2_6 ss_6 ks_6 vs_6 ff_6 (0 : Int) (0 : Int) sv1 (FP.i2d ta1) ta1 (0 : Int32) (0 : Int64) T6.heap n0 zl8 G6_0 G6_1 G6_2 G6_3 G6_4 G6_5 G6_6 G6_7 G6_8 G6_9 G6_10 G6_11 F7 H6_0 H6_1 H6_2 H6_3 H6_4 H6_5 H6_6 H6_7 H6_8 H6_9 ge4 (by omega) (by rw [e_sv1]; exact own_rem _ (own_m7 _) h18 H6_10) (by rfl) (by omega)) hZ w_83 w_6 (by decide) (by decide)) q12a q12c (g := (mkF m 119 #[.val (.int xn), .val (.int xk), .val (.int xp), .val (.int xu), .val (.int xv), .val (.int ns), .val (.int (1 : Int32)), .val (.int r1_1), .val (.int ta1), .val (.int ta2), .val (.int ta3), .val (.int sv1), .val (.int sv2), .val (.int sv3), .val (.ref b2), .val (.int (1 : Int32))] [.null, (.double (FP.i2d ta1)), (.int sv1), (.ref b2)])) rfl (by rw [hml]; rfl) (Steps.refl _) (argsL := [(.int sv1), (.double (FP.i2d ta1)), .null]) (rest := []) (lenOf pd__28IDLjava_2flang_2fRunnable_3b_29V rfl) rfl (by show 2 * 0 + _ ≤ _; exact Nat.le_of_eq rfl) (hb hby at_119) (fun _ _ => ⟨rfl, e9, (by decide : 37 + 0 ≤ _), (by decide : 286 + 0 ≤ _)⟩)
    dsimp only [Pt.U, Pt.locs, Pt.cells, Pt.slots] at X12 l12 y12 z12 st12 hQ12
    rw [l12, y12, z12] at X12
    obtain ⟨ds2_12, ls2_12, wl2_12, rfl, Nq12, Kp12, G12_0, G12_1, G12_2, G12_3, G12_4, G12_5, G12_6, G12_7, G12_8, G12_9, G12_10, G12_11, H12_0, H12_1, H12_2⟩ := hQ12
    have N12 := Fr.app N9 Nq12
    refine own_goT st12 ?_
    have le_12 : T6.heap.size ≤ T12.heap.size := Kp12.1
    have K12 : Keep h0 T12.heap (own_up n0 h0) := Keep.trans K6 Kp12 (fun x hx => own_up_or (own_up_ge hx))
    have Fz13 : Fld Z T12.heap b2 "com/example/holdback/holdback/sim/EventQueue" "size" "I" (.int (1 : Int32)) := G12_10
    refine own_go (fun _ => XS.iload X12.here hx rfl (hb hby at_122) rfl) ?_
    refine own_go (fun _ => XS.iconst X12.here hx rfl (hb hby at_124)) ?_
    show ∃ t o, Steps p.tables e below (T12.setTop (mkF m 125 #[.val (.int xn), .val (.int xk), .val (.int xp), .val (.int xu), .val (.int xv), .val (.int ns), .val (.int (1 : Int32)), .val (.int r1_1), .val (.int ta1), .val (.int ta2), .val (.int ta3), .val (.int sv1), .val (.int sv2), .val (.int sv3), .val (.ref b2), .val (.int (1 : Int32))] [(.int (2 : Int32)), (.int (1 : Int32))])) t ∧ _
    refine own_go (fun _ => XS.icmpYes X12.here hx rfl (pc0 := 125) (pc' := 139) rfl (hb hby at_125) rfl (tlt (by decide : (1 : Int32) < (2 : Int32))).1 (by decide) (by decide)) ?_
    refine own_go (fun _ => XS.iload X12.here hx rfl (hb hby at_139) rfl) ?_
    refine own_go (fun _ => XS.iconst X12.here hx rfl (hb hby at_141)) ?_
    show ∃ t o, Steps p.tables e below (T12.setTop (mkF m 142 #[.val (.int xn), .val (.int xk), .val (.int xp), .val (.int xu), .val (.int xv), .val (.int ns), .val (.int (1 : Int32)), .val (.int r1_1), .val (.int ta1), .val (.int ta2), .val (.int ta3), .val (.int sv1), .val (.int sv2), .val (.int sv3), .val (.ref b2), .val (.int (1 : Int32))] [(.int (3 : Int32)), (.int (1 : Int32))])) t ∧ _
    refine own_go (fun _ => XS.icmpYes X12.here hx rfl (pc0 := 142) (pc' := 156) rfl (hb hby at_142) rfl (tlt (by decide : (1 : Int32) < (3 : Int32))).1 (by decide) (by decide)) ?_
    refine own_go (fun _ => XS.iload X12.here hx rfl (hb hby at_156) rfl) ?_
    show ∃ t o, Steps p.tables e below (T12.setTop (mkF m 158 #[.val (.int xn), .val (.int xk), .val (.int xp), .val (.int xu), .val (.int xv), .val (.int ns), .val (.int (1 : Int32)), .val (.int r1_1), .val (.int ta1), .val (.int ta2), .val (.int ta3), .val (.int sv1), .val (.int sv2), .val (.int sv3), .val (.ref b2), .val (.int (1 : Int32))] [(.int (1 : Int32))])) t ∧ _
    refine own_go (fun _ => XS.ifNo X12.here hx rfl (hb hby at_158) rfl ((if0 _ _).trans (feq (by decide : ¬ ((1 : Int32) = (0 : Int32)))).1)) ?_
    refine own_go (fun _ => XS.aload X12.here hx rfl (hb hby at_161) rfl rfl) ?_
    show ∃ t o, Steps p.tables e below (T12.setTop (mkF m 163 #[.val (.int xn), .val (.int xk), .val (.int xp), .val (.int xu), .val (.int xv), .val (.int ns), .val (.int (1 : Int32)), .val (.int r1_1), .val (.int ta1), .val (.int ta2), .val (.int ta3), .val (.int sv1), .val (.int sv2), .val (.int sv3), .val (.ref b2), .val (.int (1 : Int32))] [(.ref b2)])) t ∧ _
    have F14 := (Old.keep F7 Kp12 (fun x hx => own_up_ge hx))
    have zl15 : n0 ≤ T12.heap.size := by omega
    obtain ⟨cq16, kq16, q16a, q16b, q16c⟩ := isOf hZ rfl G12_0
    obtain ⟨_, _, ⟨T16, L16, k16, n16⟩, -, X16, ⟨Lc16, hQ16, l16, y16, z16⟩, st16⟩ := X12.virtualBack hx (y := (⟨"com/example/holdback/holdback/sim/EventQueue", "isEmpty", "()Z"⟩ : MethodName)) (z := (⟨"com/example/holdback/holdback/sim/EventQueue", "isEmpty", "()Z"⟩ : MethodName)) hown (mvT hZ w_72) (mvT hZ w_73) (notFace_of_selects (args := #[]) (mvT hZ w_75)) (mvT hZ w_75) (mvT hZ w_74) (by decide) (backOf (W := 0) (rmE1 l Z a0 hw [] b2 (1 : Int32) T12.heap n0 zl15 Fz13 F14 (by decide)) hZ w_76 w_6 (by decide) (by decide)) q16a q16c (g := (mkF m 163 #[.val (.int xn), .val (.int xk), .val (.int xp), .val (.int xu), .val (.int xv), .val (.int ns), .val (.int (1 : Int32)), .val (.int r1_1), .val (.int ta1), .val (.int ta2), .val (.int ta3), .val (.int sv1), .val (.int sv2), .val (.int sv3), .val (.ref b2), .val (.int (1 : Int32))] [(.ref b2)])) rfl (by rw [hml]; rfl) (Steps.refl _) (argsL := []) (rest := []) (lenOf pd__28_29Z rfl) rfl (by show 2 * 0 + _ ≤ _; exact Nat.le_of_eq rfl) (hb hby at_163) (fun _ _ => ⟨rfl, rfl, (by decide : 37 + 0 ≤ _), (by decide : 286 + 0 ≤ _)⟩)
    dsimp only [Pt.U, Pt.locs, Pt.cells, Pt.slots] at X16 l16 y16 z16 st16 hQ16
    rw [l16, y16, z16] at X16
    obtain ⟨rfl, Nq16, e16⟩ := hQ16
    have N16 := Fr.app N12 Nq16
    refine own_goT st16 ?_
    refine own_go (fun _ => XS.iload X16.here hx rfl (hb hby at_166) rfl) ?_
    show ∃ t o, Steps p.tables e below (T16.setTop (mkF m 168 #[.val (.int xn), .val (.int xk), .val (.int xp), .val (.int xu), .val (.int xv), .val (.int ns), .val (.int (1 : Int32)), .val (.int r1_1), .val (.int ta1), .val (.int ta2), .val (.int ta3), .val (.int sv1), .val (.int sv2), .val (.int sv3), .val (.ref b2), .val (.int (1 : Int32))] [(.int (1 : Int32)), (.int (0 : Int32))])) t ∧ _
    refine own_go (fun _ => XS.ifYes X16.here hx rfl (pc0 := 168) (pc' := 175) rfl (hb hby at_168) rfl ((if0 _ _).trans (feq (by decide : ¬ ((1 : Int32) = (0 : Int32)))).2) (by decide) (by decide)) ?_
    refine own_go (fun _ => XS.iconst X16.here hx rfl (hb hby at_175)) ?_
    show ∃ t o, Steps p.tables e below (T16.setTop (mkF m 176 #[.val (.int xn), .val (.int xk), .val (.int xp), .val (.int xu), .val (.int xv), .val (.int ns), .val (.int (1 : Int32)), .val (.int r1_1), .val (.int ta1), .val (.int ta2), .val (.int ta3), .val (.int sv1), .val (.int sv2), .val (.int sv3), .val (.ref b2), .val (.int (1 : Int32))] [(.int (0 : Int32)), (.int (0 : Int32))])) t ∧ _
    refine own_go (fun _ => XS.icmpNo X16.here hx rfl (hb hby at_176) rfl (teq (by decide : (0 : Int32) = (0 : Int32))).2) ?_
    refine own_go (fun _ => XS.iconst X16.here hx rfl (hb hby at_179)) ?_
    refine own_go (fun _ => XS.goto X16.here hx rfl (pc0 := 180) (pc' := 184) rfl (hb hby at_180) (by decide) (by decide)) ?_
    refine own_go (fun _ => XS.istore X16.here hx rfl (hb hby at_184) rfl (l' := #[.val (.int xn), .val (.int xk), .val (.int xp), .val (.int xu), .val (.int xv), .val (.int ns), .val (.int (1 : Int32)), .val (.int r1_1), .val (.int ta1), .val (.int ta2), .val (.int ta3), .val (.int sv1), .val (.int sv2), .val (.int sv3), .val (.ref b2), .val (.int (1 : Int32))]) rfl) ?_
    refine own_go (fun _ => XS.iload X16.here hx rfl (hb hby at_186) rfl) ?_
    refine own_go (fun _ => XS.iconst X16.here hx rfl (hb hby at_188)) ?_
    show ∃ t o, Steps p.tables e below (T16.setTop (mkF m 189 #[.val (.int xn), .val (.int xk), .val (.int xp), .val (.int xu), .val (.int xv), .val (.int ns), .val (.int (1 : Int32)), .val (.int r1_1), .val (.int ta1), .val (.int ta2), .val (.int ta3), .val (.int sv1), .val (.int sv2), .val (.int sv3), .val (.ref b2), .val (.int (1 : Int32))] [(.int (1 : Int32)), (.int r1_1)])) t ∧ _
    have hj : r1_1 = (0 : Int32) ∨ r1_1 = (1 : Int32) := by rw [H1_0]; rcases own_and3 xp with q | q | q | q <;> rw [q] <;> decide
    rcases hj with hj | hj
    · rw [hj]
      show ∃ t o, Steps p.tables e below (T16.setTop (mkF m 189 #[.val (.int xn), .val (.int xk), .val (.int xp), .val (.int xu), .val (.int xv), .val (.int ns), .val (.int (1 : Int32)), .val (.int (0 : Int32)), .val (.int ta1), .val (.int ta2), .val (.int ta3), .val (.int sv1), .val (.int sv2), .val (.int sv3), .val (.ref b2), .val (.int (1 : Int32))] [(.int (1 : Int32)), (.int (0 : Int32))])) t ∧ _
      refine own_go (fun _ => XS.icmpYes X16.here hx rfl (pc0 := 189) (pc' := 198) rfl (hb hby at_189) rfl (tlt (by decide : (0 : Int32) < (1 : Int32))).1 (by decide) (by decide)) ?_
      refine own_go (fun _ => XS.iload X16.here hx rfl (hb hby at_198) rfl) ?_
      refine own_go (fun _ => XS.iconst X16.here hx rfl (hb hby at_200)) ?_
      show ∃ t o, Steps p.tables e below (T16.setTop (mkF m 201 #[.val (.int xn), .val (.int xk), .val (.int xp), .val (.int xu), .val (.int xv), .val (.int ns), .val (.int (1 : Int32)), .val (.int (0 : Int32)), .val (.int ta1), .val (.int ta2), .val (.int ta3), .val (.int sv1), .val (.int sv2), .val (.int sv3), .val (.ref b2), .val (.int (1 : Int32))] [(.int (2 : Int32)), (.int (0 : Int32))])) t ∧ _
      refine own_go (fun _ => XS.icmpYes X16.here hx rfl (pc0 := 201) (pc' := 210) rfl (hb hby at_201) rfl (tlt (by decide : (0 : Int32) < (2 : Int32))).1 (by decide) (by decide)) ?_
      refine own_go (fun _ => XS.iload X16.here hx rfl (hb hby at_210) rfl) ?_
      refine own_go (fun _ => XS.iconst X16.here hx rfl (hb hby at_212)) ?_
      show ∃ t o, Steps p.tables e below (T16.setTop (mkF m 213 #[.val (.int xn), .val (.int xk), .val (.int xp), .val (.int xu), .val (.int xv), .val (.int ns), .val (.int (1 : Int32)), .val (.int (0 : Int32)), .val (.int ta1), .val (.int ta2), .val (.int ta3), .val (.int sv1), .val (.int sv2), .val (.int sv3), .val (.ref b2), .val (.int (1 : Int32))] [(.int (3 : Int32)), (.int (0 : Int32))])) t ∧ _
      refine own_go (fun _ => XS.icmpYes X16.here hx rfl (pc0 := 213) (pc' := 222) rfl (hb hby at_213) rfl (tlt (by decide : (0 : Int32) < (3 : Int32))).1 (by decide) (by decide)) ?_
      refine own_go (fun _ => XS.iload X16.here hx rfl (hb hby at_222) rfl) ?_
      show ∃ t o, Steps p.tables e below (T16.setTop (mkF m 224 #[.val (.int xn), .val (.int xk), .val (.int xp), .val (.int xu), .val (.int xv), .val (.int ns), .val (.int (1 : Int32)), .val (.int (0 : Int32)), .val (.int ta1), .val (.int ta2), .val (.int ta3), .val (.int sv1), .val (.int sv2), .val (.int sv3), .val (.ref b2), .val (.int (1 : Int32))] [(.int (1 : Int32))])) t ∧ _
      refine own_go (fun _ => XS.ifNo X16.here hx rfl (hb hby at_224) rfl ((if0 _ _).trans (feq (by decide : ¬ ((1 : Int32) = (0 : Int32)))).1)) ?_
      refine own_go (fun _ => XS.aload X16.here hx rfl (hb hby at_227) rfl rfl) ?_
      show ∃ t o, Steps p.tables e below (T16.setTop (mkF m 229 #[.val (.int xn), .val (.int xk), .val (.int xp), .val (.int xu), .val (.int xv), .val (.int ns), .val (.int (1 : Int32)), .val (.int (0 : Int32)), .val (.int ta1), .val (.int ta2), .val (.int ta3), .val (.int sv1), .val (.int sv2), .val (.int sv3), .val (.ref b2), .val (.int (1 : Int32))] [(.ref b2)])) t ∧ _
      obtain ⟨cq17, kq17, q17a, q17b, q17c⟩ := isOf hZ e16 G12_0
      obtain ⟨_, _, ⟨T17, L17, k17, n17⟩, -, X17, ⟨Lc17, hQ17, l17, y17, z17⟩, st17⟩ := X16.virtualBack hx (y := (⟨"com/example/holdback/holdback/sim/EventQueue", "isEmpty", "()Z"⟩ : MethodName)) (z := (⟨"com/example/holdback/holdback/sim/EventQueue", "isEmpty", "()Z"⟩ : MethodName)) hown (mvT hZ w_72) (mvT hZ w_73) (notFace_of_selects (args := #[]) (mvT hZ w_75)) (mvT hZ w_75) (mvT hZ w_74) (by decide) (backOf (W := 0) (rmE1 l Z a0 hw [] b2 (1 : Int32) T12.heap n0 zl15 Fz13 F14 (by decide)) hZ w_76 w_6 (by decide) (by decide)) q17a q17c (g := (mkF m 229 #[.val (.int xn), .val (.int xk), .val (.int xp), .val (.int xu), .val (.int xv), .val (.int ns), .val (.int (1 : Int32)), .val (.int (0 : Int32)), .val (.int ta1), .val (.int ta2), .val (.int ta3), .val (.int sv1), .val (.int sv2), .val (.int sv3), .val (.ref b2), .val (.int (1 : Int32))] [(.ref b2)])) rfl (by rw [hml]; rfl) (Steps.refl _) (argsL := []) (rest := []) (lenOf pd__28_29Z rfl) rfl (by show 2 * 0 + _ ≤ _; exact Nat.le_of_eq rfl) (hb hby at_229) (fun _ _ => ⟨rfl, e16, (by decide : 37 + 0 ≤ _), (by decide : 286 + 0 ≤ _)⟩)
      dsimp only [Pt.U, Pt.locs, Pt.cells, Pt.slots] at X17 l17 y17 z17 st17 hQ17
      rw [l17, y17, z17] at X17
      obtain ⟨rfl, Nq17, e17⟩ := hQ17
      have N17 := Fr.app N16 Nq17
      refine own_goT st17 ?_
      refine own_go (fun _ => XS.iload X17.here hx rfl (hb hby at_232) rfl) ?_
      refine own_go (fun _ => XS.iload X17.here hx rfl (hb hby at_234) rfl) ?_
      refine own_go (fun _ => XS.isub X17.here hx rfl (hb hby at_236) rfl) ?_
      show ∃ t o, Steps p.tables e below (T17.setTop (mkF m 237 #[.val (.int xn), .val (.int xk), .val (.int xp), .val (.int xu), .val (.int xv), .val (.int ns), .val (.int (1 : Int32)), .val (.int (0 : Int32)), .val (.int ta1), .val (.int ta2), .val (.int ta3), .val (.int sv1), .val (.int sv2), .val (.int sv3), .val (.ref b2), .val (.int (1 : Int32))] [(.int (1 : Int32)), (.int (0 : Int32))])) t ∧ _
      refine own_go (fun _ => XS.ifYes X17.here hx rfl (pc0 := 237) (pc' := 244) rfl (hb hby at_237) rfl ((if0 _ _).trans (feq (by decide : ¬ ((1 : Int32) = (0 : Int32)))).2) (by decide) (by decide)) ?_
      refine own_go (fun _ => XS.iconst X17.here hx rfl (hb hby at_244)) ?_
      show ∃ t o, Steps p.tables e below (T17.setTop (mkF m 245 #[.val (.int xn), .val (.int xk), .val (.int xp), .val (.int xu), .val (.int xv), .val (.int ns), .val (.int (1 : Int32)), .val (.int (0 : Int32)), .val (.int ta1), .val (.int ta2), .val (.int ta3), .val (.int sv1), .val (.int sv2), .val (.int sv3), .val (.ref b2), .val (.int (1 : Int32))] [(.int (0 : Int32)), (.int (0 : Int32))])) t ∧ _
      refine own_go (fun _ => XS.icmpNo X17.here hx rfl (hb hby at_245) rfl (teq (by decide : (0 : Int32) = (0 : Int32))).2) ?_
      refine own_go (fun _ => XS.iconst X17.here hx rfl (hb hby at_248)) ?_
      refine own_go (fun _ => XS.goto X17.here hx rfl (pc0 := 249) (pc' := 253) rfl (hb hby at_249) (by decide) (by decide)) ?_
      refine own_go (fun _ => XS.istore X17.here hx rfl (hb hby at_253) rfl (l' := #[.val (.int xn), .val (.int xk), .val (.int xp), .val (.int xu), .val (.int xv), .val (.int ns), .val (.int (1 : Int32)), .val (.int (0 : Int32)), .val (.int ta1), .val (.int ta2), .val (.int ta3), .val (.int sv1), .val (.int sv2), .val (.int sv3), .val (.ref b2), .val (.int (1 : Int32))]) rfl) ?_
      refine own_go (fun _ => XS.iload X17.here hx rfl (hb hby at_255) rfl) ?_
      show ∃ t o, Steps p.tables e below (T17.setTop (mkF m 257 #[.val (.int xn), .val (.int xk), .val (.int xp), .val (.int xu), .val (.int xv), .val (.int ns), .val (.int (1 : Int32)), .val (.int (0 : Int32)), .val (.int ta1), .val (.int ta2), .val (.int ta3), .val (.int sv1), .val (.int sv2), .val (.int sv3), .val (.ref b2), .val (.int (1 : Int32))] [(.int (1 : Int32))])) t ∧ _
      obtain ⟨fs, hr, hrun, hended, hW, hsame⟩ := X17.leave (v := some (.int (1 : Int32))) (fun h => by rw [Bd.returns] at h; cases h)
      refine ⟨_, _, ?_, hrun, hended, _, _, rfl, ?_, ⟨_, rfl⟩, hW, hsame.mono (by decide) (by decide)⟩
      · exact retN X17 hx (t := .boolean) Bd.returns (by simp) (hb hby at_257) hr
      · show Q_rm0 Z _ _ _ _ _ h0 n0 _ T17.heap _
        rw [e17]
        exact ⟨rfl, N17, K12⟩
    · rw [hj]
      show ∃ t o, Steps p.tables e below (T16.setTop (mkF m 189 #[.val (.int xn), .val (.int xk), .val (.int xp), .val (.int xu), .val (.int xv), .val (.int ns), .val (.int (1 : Int32)), .val (.int (1 : Int32)), .val (.int ta1), .val (.int ta2), .val (.int ta3), .val (.int sv1), .val (.int sv2), .val (.int sv3), .val (.ref b2), .val (.int (1 : Int32))] [(.int (1 : Int32)), (.int (1 : Int32))])) t ∧ _
      refine own_go (fun _ => XS.icmpNo X16.here hx rfl (hb hby at_189) rfl (flt (by decide : ¬ ((1 : Int32) < (1 : Int32)))).1) ?_
      refine own_go (fun _ => XS.aload X16.here hx rfl (hb hby at_192) rfl rfl) ?_
      show ∃ t o, Steps p.tables e below (T16.setTop (mkF m 194 #[.val (.int xn), .val (.int xk), .val (.int xp), .val (.int xu), .val (.int xv), .val (.int ns), .val (.int (1 : Int32)), .val (.int (1 : Int32)), .val (.int ta1), .val (.int ta2), .val (.int ta3), .val (.int sv1), .val (.int sv2), .val (.int sv3), .val (.ref b2), .val (.int (1 : Int32))] [(.ref b2)])) t ∧ _
      obtain ⟨cq18, kq18, q18a, q18b, q18c⟩ := isOf hZ e16 G12_0
      obtain ⟨_, _, ⟨T18, L18, k18, n18⟩, -, X18, ⟨Lc18, hQ18, l18, y18, z18⟩, st18⟩ := X16.virtualBack hx (y := (⟨"com/example/holdback/holdback/sim/EventQueue", "poll", "()Ljava/lang/Runnable;"⟩ : MethodName)) (z := (⟨"com/example/holdback/holdback/sim/EventQueue", "poll", "()Ljava/lang/Runnable;"⟩ : MethodName)) hown (mvT hZ w_106) (mvT hZ w_107) (notFace_of_selects (args := #[]) (mvT hZ w_109)) (mvT hZ w_109) (mvT hZ w_108) (by decide) (backOf (W := 0) (rmPoll l Z a0 hw [] b2 fa_6 fp_6 wi_6 kf_6 kp_6 kw_6 ds2_12 ls2_12 wl2_12 zN_6 z2_6 ss_6 ks_6 vs_6 ff_6 (ta1.toInt) (((0 : Int) + 1)) (1 : Int32) (((0 : Int64) + (1 : Int64))) T12.heap n0 zl15 G12_0 G12_1 G12_2 G12_3 G12_4 G12_5 G12_6 G12_7 G12_8 G12_9 Fz13 G12_11 F14 H12_0 H12_1 H12_2 H6_3 H6_4 H6_5 H6_6 H6_7 H6_8 H6_9 ge4 (by omega) (by decide)) hZ w_110 w_6 (by decide) (by decide)) q18a q18c (g := (mkF m 194 #[.val (.int xn), .val (.int xk), .val (.int xp), .val (.int xu), .val (.int xv), .val (.int ns), .val (.int (1 : Int32)), .val (.int (1 : Int32)), .val (.int ta1), .val (.int ta2), .val (.int ta3), .val (.int sv1), .val (.int sv2), .val (.int sv3), .val (.ref b2), .val (.int (1 : Int32))] [(.ref b2)])) rfl (by rw [hml]; rfl) (Steps.refl _) (argsL := []) (rest := []) (lenOf pd__28_29Ljava_2flang_2fRunnable_3b rfl) rfl (by show 2 * 0 + _ ≤ _; exact Nat.le_of_eq rfl) (hb hby at_194) (fun _ _ => ⟨rfl, e16, (by decide : 37 + 0 ≤ _), (by decide : 286 + 0 ≤ _)⟩)
      dsimp only [Pt.U, Pt.locs, Pt.cells, Pt.slots] at X18 l18 y18 z18 st18 hQ18
      rw [l18, y18, z18] at X18
      obtain ⟨ds2_18, ls2_18, wl2_18, rfl, Nq18, Kp18, G18_0, G18_1, G18_2, G18_3, G18_4, G18_5, G18_6, G18_7, G18_8, G18_9, G18_10, G18_11, H18_0, H18_1, H18_2⟩ := hQ18
      have N18 := Fr.app N16 Nq18
      refine own_goT st18 ?_
      have le_18 : T12.heap.size ≤ T18.heap.size := Kp18.1
      have K18 : Keep h0 T18.heap (own_up n0 h0) := Keep.trans K12 Kp18 (fun x hx => own_up_or (own_up_ge hx))
      have Fz19 : Fld Z T18.heap b2 "com/example/holdback/holdback/sim/EventQueue" "size" "I" (.int (0 : Int32)) := G18_10
      refine own_go (fun _ => XS.pop X18.here hx rfl (hb hby at_197) rfl rfl) ?_
      refine own_go (fun _ => XS.iload X18.here hx rfl (hb hby at_198) rfl) ?_
      refine own_go (fun _ => XS.iconst X18.here hx rfl (hb hby at_200)) ?_
      show ∃ t o, Steps p.tables e below (T18.setTop (mkF m 201 #[.val (.int xn), .val (.int xk), .val (.int xp), .val (.int xu), .val (.int xv), .val (.int ns), .val (.int (1 : Int32)), .val (.int (1 : Int32)), .val (.int ta1), .val (.int ta2), .val (.int ta3), .val (.int sv1), .val (.int sv2), .val (.int sv3), .val (.ref b2), .val (.int (1 : Int32))] [(.int (2 : Int32)), (.int (1 : Int32))])) t ∧ _
      refine own_go (fun _ => XS.icmpYes X18.here hx rfl (pc0 := 201) (pc' := 210) rfl (hb hby at_201) rfl (tlt (by decide : (1 : Int32) < (2 : Int32))).1 (by decide) (by decide)) ?_
      refine own_go (fun _ => XS.iload X18.here hx rfl (hb hby at_210) rfl) ?_
      refine own_go (fun _ => XS.iconst X18.here hx rfl (hb hby at_212)) ?_
      show ∃ t o, Steps p.tables e below (T18.setTop (mkF m 213 #[.val (.int xn), .val (.int xk), .val (.int xp), .val (.int xu), .val (.int xv), .val (.int ns), .val (.int (1 : Int32)), .val (.int (1 : Int32)), .val (.int ta1), .val (.int ta2), .val (.int ta3), .val (.int sv1), .val (.int sv2), .val (.int sv3), .val (.ref b2), .val (.int (1 : Int32))] [(.int (3 : Int32)), (.int (1 : Int32))])) t ∧ _
      refine own_go (fun _ => XS.icmpYes X18.here hx rfl (pc0 := 213) (pc' := 222) rfl (hb hby at_213) rfl (tlt (by decide : (1 : Int32) < (3 : Int32))).1 (by decide) (by decide)) ?_
      refine own_go (fun _ => XS.iload X18.here hx rfl (hb hby at_222) rfl) ?_
      show ∃ t o, Steps p.tables e below (T18.setTop (mkF m 224 #[.val (.int xn), .val (.int xk), .val (.int xp), .val (.int xu), .val (.int xv), .val (.int ns), .val (.int (1 : Int32)), .val (.int (1 : Int32)), .val (.int ta1), .val (.int ta2), .val (.int ta3), .val (.int sv1), .val (.int sv2), .val (.int sv3), .val (.ref b2), .val (.int (1 : Int32))] [(.int (1 : Int32))])) t ∧ _
      refine own_go (fun _ => XS.ifNo X18.here hx rfl (hb hby at_224) rfl ((if0 _ _).trans (feq (by decide : ¬ ((1 : Int32) = (0 : Int32)))).1)) ?_
      refine own_go (fun _ => XS.aload X18.here hx rfl (hb hby at_227) rfl rfl) ?_
      show ∃ t o, Steps p.tables e below (T18.setTop (mkF m 229 #[.val (.int xn), .val (.int xk), .val (.int xp), .val (.int xu), .val (.int xv), .val (.int ns), .val (.int (1 : Int32)), .val (.int (1 : Int32)), .val (.int ta1), .val (.int ta2), .val (.int ta3), .val (.int sv1), .val (.int sv2), .val (.int sv3), .val (.ref b2), .val (.int (1 : Int32))] [(.ref b2)])) t ∧ _
      have F20 := (Old.keep F14 Kp18 (fun x hx => own_up_ge hx))
      have zl21 : n0 ≤ T18.heap.size := by omega
      obtain ⟨cq22, kq22, q22a, q22b, q22c⟩ := isOf hZ rfl G18_0
      obtain ⟨_, _, ⟨T22, L22, k22, n22⟩, -, X22, ⟨Lc22, hQ22, l22, y22, z22⟩, st22⟩ := X18.virtualBack hx (y := (⟨"com/example/holdback/holdback/sim/EventQueue", "isEmpty", "()Z"⟩ : MethodName)) (z := (⟨"com/example/holdback/holdback/sim/EventQueue", "isEmpty", "()Z"⟩ : MethodName)) hown (mvT hZ w_72) (mvT hZ w_73) (notFace_of_selects (args := #[]) (mvT hZ w_75)) (mvT hZ w_75) (mvT hZ w_74) (by decide) (backOf (W := 0) (rmE0 l Z a0 hw [] b2 T18.heap n0 zl21 Fz19 F20) hZ w_76 w_6 (by decide) (by decide)) q22a q22c (g := (mkF m 229 #[.val (.int xn), .val (.int xk), .val (.int xp), .val (.int xu), .val (.int xv), .val (.int ns), .val (.int (1 : Int32)), .val (.int (1 : Int32)), .val (.int ta1), .val (.int ta2), .val (.int ta3), .val (.int sv1), .val (.int sv2), .val (.int sv3), .val (.ref b2), .val (.int (1 : Int32))] [(.ref b2)])) rfl (by rw [hml]; rfl) (Steps.refl _) (argsL := []) (rest := []) (lenOf pd__28_29Z rfl) rfl (by show 2 * 0 + _ ≤ _; exact Nat.le_of_eq rfl) (hb hby at_229) (fun _ _ => ⟨rfl, rfl, (by decide : 37 + 0 ≤ _), (by decide : 286 + 0 ≤ _)⟩)
      dsimp only [Pt.U, Pt.locs, Pt.cells, Pt.slots] at X22 l22 y22 z22 st22 hQ22
      rw [l22, y22, z22] at X22
      obtain ⟨rfl, Nq22, e22⟩ := hQ22
      have N22 := Fr.app N18 Nq22
      refine own_goT st22 ?_
      refine own_go (fun _ => XS.iload X22.here hx rfl (hb hby at_232) rfl) ?_
      refine own_go (fun _ => XS.iload X22.here hx rfl (hb hby at_234) rfl) ?_
      refine own_go (fun _ => XS.isub X22.here hx rfl (hb hby at_236) rfl) ?_
      show ∃ t o, Steps p.tables e below (T22.setTop (mkF m 237 #[.val (.int xn), .val (.int xk), .val (.int xp), .val (.int xu), .val (.int xv), .val (.int ns), .val (.int (1 : Int32)), .val (.int (1 : Int32)), .val (.int ta1), .val (.int ta2), .val (.int ta3), .val (.int sv1), .val (.int sv2), .val (.int sv3), .val (.ref b2), .val (.int (1 : Int32))] [(.int (0 : Int32)), (.int (1 : Int32))])) t ∧ _
      refine own_go (fun _ => XS.ifNo X22.here hx rfl (hb hby at_237) rfl ((if0 _ _).trans (teq (by decide : (0 : Int32) = (0 : Int32))).2)) ?_
      refine own_go (fun _ => XS.iconst X22.here hx rfl (hb hby at_240)) ?_
      refine own_go (fun _ => XS.goto X22.here hx rfl (pc0 := 241) (pc' := 245) rfl (hb hby at_241) (by decide) (by decide)) ?_
      show ∃ t o, Steps p.tables e below (T22.setTop (mkF m 245 #[.val (.int xn), .val (.int xk), .val (.int xp), .val (.int xu), .val (.int xv), .val (.int ns), .val (.int (1 : Int32)), .val (.int (1 : Int32)), .val (.int ta1), .val (.int ta2), .val (.int ta3), .val (.int sv1), .val (.int sv2), .val (.int sv3), .val (.ref b2), .val (.int (1 : Int32))] [(.int (1 : Int32)), (.int (1 : Int32))])) t ∧ _
      refine own_go (fun _ => XS.icmpNo X22.here hx rfl (hb hby at_245) rfl (teq (by decide : (1 : Int32) = (1 : Int32))).2) ?_
      refine own_go (fun _ => XS.iconst X22.here hx rfl (hb hby at_248)) ?_
      refine own_go (fun _ => XS.goto X22.here hx rfl (pc0 := 249) (pc' := 253) rfl (hb hby at_249) (by decide) (by decide)) ?_
      refine own_go (fun _ => XS.istore X22.here hx rfl (hb hby at_253) rfl (l' := #[.val (.int xn), .val (.int xk), .val (.int xp), .val (.int xu), .val (.int xv), .val (.int ns), .val (.int (1 : Int32)), .val (.int (1 : Int32)), .val (.int ta1), .val (.int ta2), .val (.int ta3), .val (.int sv1), .val (.int sv2), .val (.int sv3), .val (.ref b2), .val (.int (1 : Int32))]) rfl) ?_
      refine own_go (fun _ => XS.iload X22.here hx rfl (hb hby at_255) rfl) ?_
      show ∃ t o, Steps p.tables e below (T22.setTop (mkF m 257 #[.val (.int xn), .val (.int xk), .val (.int xp), .val (.int xu), .val (.int xv), .val (.int ns), .val (.int (1 : Int32)), .val (.int (1 : Int32)), .val (.int ta1), .val (.int ta2), .val (.int ta3), .val (.int sv1), .val (.int sv2), .val (.int sv3), .val (.ref b2), .val (.int (1 : Int32))] [(.int (1 : Int32))])) t ∧ _
      obtain ⟨fs, hr, hrun, hended, hW, hsame⟩ := X22.leave (v := some (.int (1 : Int32))) (fun h => by rw [Bd.returns] at h; cases h)
      refine ⟨_, _, ?_, hrun, hended, _, _, rfl, ?_, ⟨_, rfl⟩, hW, hsame.mono (by decide) (by decide)⟩
      · exact retN X22 hx (t := .boolean) Bd.returns (by simp) (hb hby at_257) hr
      · show Q_rm0 Z _ _ _ _ _ h0 n0 _ T22.heap _
        rw [e22]
        exact ⟨rfl, N22, K18⟩
  · show ∃ t o, Steps p.tables e below (T9.setTop (mkF m 108 #[.val (.int xn), .val (.int xk), .val (.int xp), .val (.int xu), .val (.int xv), .val (.int ns), .val (.int (2 : Int32)), .val (.int r1_1), .val (.int ta1), .val (.int ta2), .val (.int ta3), .val (.int sv1), .val (.int sv2), .val (.int sv3), .val (.ref b2), .val (.int (1 : Int32))] [(.int (1 : Int32)), (.int (2 : Int32))])) t ∧ _
    show ∃ t o, Steps p.tables e below (T9.setTop (mkF m 108 #[.val (.int xn), .val (.int xk), .val (.int xp), .val (.int xu), .val (.int xv), .val (.int ns), .val (.int (2 : Int32)), .val (.int r1_1), .val (.int ta1), .val (.int ta2), .val (.int ta3), .val (.int sv1), .val (.int sv2), .val (.int sv3), .val (.ref b2), .val (.int (1 : Int32))] [(.int (1 : Int32)), (.int (2 : Int32))])) t ∧ _
    refine own_go (fun _ => XS.icmpNo X9.here hx rfl (hb hby at_108) rfl (flt (by decide : ¬ ((2 : Int32) < (1 : Int32)))).1) ?_
    refine own_go (fun _ => XS.aload X9.here hx rfl (hb hby at_111) rfl rfl) ?_
    refine own_go (fun _ => XS.iload X9.here hx rfl (hb hby at_113) rfl) ?_
    refine own_go (fun _ => XS.iload X9.here hx rfl (hb hby at_115) rfl) ?_
    refine own_go (fun _ => XS.i2dS X9.here hx rfl (hb hby at_117) rfl rfl) ?_
    refine own_go (fun _ => XS.aconstNull X9.here hx rfl (hb hby at_118)) ?_
    show ∃ t o, Steps p.tables e below (T9.setTop (mkF m 119 #[.val (.int xn), .val (.int xk), .val (.int xp), .val (.int xu), .val (.int xv), .val (.int ns), .val (.int (2 : Int32)), .val (.int r1_1), .val (.int ta1), .val (.int ta2), .val (.int ta3), .val (.int sv1), .val (.int sv2), .val (.int sv3), .val (.ref b2), .val (.int (1 : Int32))] [.null, (.double (FP.i2d ta1)), (.int sv1), (.ref b2)])) t ∧ _
    obtain ⟨cq23, kq23, q23a, q23b, q23c⟩ := isOf hZ e9 G6_0
    obtain ⟨_, _, ⟨T23, L23, k23, n23⟩, -, X23, ⟨Lc23, hQ23, l23, y23, z23⟩, st23⟩ := X9.virtualBack hx (y := (⟨"com/example/holdback/holdback/sim/EventQueue", "add", "(IDLjava/lang/Runnable;)V"⟩ : MethodName)) (z := (⟨"com/example/holdback/holdback/sim/EventQueue", "add", "(IDLjava/lang/Runnable;)V"⟩ : MethodName)) hown (mvT hZ w_79) (mvT hZ w_80) (notFace_of_selects (args := #[]) (mvT hZ w_82)) (mvT hZ w_82) (mvT hZ w_81) (by decide) (backOf (W := 0) (rmAdd l Z a0 hw [] b2 fa_6 fp_6 wi_6 kf_6 kp_6 kw_6 ds_6 ls_6 wl_6 zN_6 z2_6 ss_6 ks_6 vs_6 ff_6 (0 : Int) (0 : Int) sv1 (FP.i2d ta1) ta1 (0 : Int32) (0 : Int64) T6.heap n0 zl8 G6_0 G6_1 G6_2 G6_3 G6_4 G6_5 G6_6 G6_7 G6_8 G6_9 G6_10 G6_11 F7 H6_0 H6_1 H6_2 H6_3 H6_4 H6_5 H6_6 H6_7 H6_8 H6_9 ge4 (by omega) (by rw [e_sv1]; exact own_rem _ (own_m7 _) h18 H6_10) (by rfl) (by omega)) hZ w_83 w_6 (by decide) (by decide)) q23a q23c (g := (mkF m 119 #[.val (.int xn), .val (.int xk), .val (.int xp), .val (.int xu), .val (.int xv), .val (.int ns), .val (.int (2 : Int32)), .val (.int r1_1), .val (.int ta1), .val (.int ta2), .val (.int ta3), .val (.int sv1), .val (.int sv2), .val (.int sv3), .val (.ref b2), .val (.int (1 : Int32))] [.null, (.double (FP.i2d ta1)), (.int sv1), (.ref b2)])) rfl (by rw [hml]; rfl) (Steps.refl _) (argsL := [(.int sv1), (.double (FP.i2d ta1)), .null]) (rest := []) (lenOf pd__28IDLjava_2flang_2fRunnable_3b_29V rfl) rfl (by show 2 * 0 + _ ≤ _; exact Nat.le_of_eq rfl) (hb hby at_119) (fun _ _ => ⟨rfl, e9, (by decide : 37 + 0 ≤ _), (by decide : 286 + 0 ≤ _)⟩)
    dsimp only [Pt.U, Pt.locs, Pt.cells, Pt.slots] at X23 l23 y23 z23 st23 hQ23
    rw [l23, y23, z23] at X23
    obtain ⟨ds2_23, ls2_23, wl2_23, rfl, Nq23, Kp23, G23_0, G23_1, G23_2, G23_3, G23_4, G23_5, G23_6, G23_7, G23_8, G23_9, G23_10, G23_11, H23_0, H23_1, H23_2⟩ := hQ23
    have N23 := Fr.app N9 Nq23
    refine own_goT st23 ?_
    have le_23 : T6.heap.size ≤ T23.heap.size := Kp23.1
    have K23 : Keep h0 T23.heap (own_up n0 h0) := Keep.trans K6 Kp23 (fun x hx => own_up_or (own_up_ge hx))
    have Fz24 : Fld Z T23.heap b2 "com/example/holdback/holdback/sim/EventQueue" "size" "I" (.int (1 : Int32)) := G23_10
    refine own_go (fun _ => XS.iload X23.here hx rfl (hb hby at_122) rfl) ?_
    refine own_go (fun _ => XS.iconst X23.here hx rfl (hb hby at_124)) ?_
    show ∃ t o, Steps p.tables e below (T23.setTop (mkF m 125 #[.val (.int xn), .val (.int xk), .val (.int xp), .val (.int xu), .val (.int xv), .val (.int ns), .val (.int (2 : Int32)), .val (.int r1_1), .val (.int ta1), .val (.int ta2), .val (.int ta3), .val (.int sv1), .val (.int sv2), .val (.int sv3), .val (.ref b2), .val (.int (1 : Int32))] [(.int (2 : Int32)), (.int (2 : Int32))])) t ∧ _
    refine own_go (fun _ => XS.icmpNo X23.here hx rfl (hb hby at_125) rfl (flt (by decide : ¬ ((2 : Int32) < (2 : Int32)))).1) ?_
    refine own_go (fun _ => XS.aload X23.here hx rfl (hb hby at_128) rfl rfl) ?_
    refine own_go (fun _ => XS.iload X23.here hx rfl (hb hby at_130) rfl) ?_
    refine own_go (fun _ => XS.iload X23.here hx rfl (hb hby at_132) rfl) ?_
    refine own_go (fun _ => XS.i2dS X23.here hx rfl (hb hby at_134) rfl rfl) ?_
    refine own_go (fun _ => XS.aconstNull X23.here hx rfl (hb hby at_135)) ?_
    show ∃ t o, Steps p.tables e below (T23.setTop (mkF m 136 #[.val (.int xn), .val (.int xk), .val (.int xp), .val (.int xu), .val (.int xv), .val (.int ns), .val (.int (2 : Int32)), .val (.int r1_1), .val (.int ta1), .val (.int ta2), .val (.int ta3), .val (.int sv1), .val (.int sv2), .val (.int sv3), .val (.ref b2), .val (.int (1 : Int32))] [.null, (.double (FP.i2d ta2)), (.int sv2), (.ref b2)])) t ∧ _
    have F25 := (Old.keep F7 Kp23 (fun x hx => own_up_ge hx))
    have zl26 : n0 ≤ T23.heap.size := by omega
    obtain ⟨cq27, kq27, q27a, q27b, q27c⟩ := isOf hZ rfl G23_0
    obtain ⟨_, _, ⟨T27, L27, k27, n27⟩, -, X27, ⟨Lc27, hQ27, l27, y27, z27⟩, st27⟩ := X23.virtualBack hx (y := (⟨"com/example/holdback/holdback/sim/EventQueue", "add", "(IDLjava/lang/Runnable;)V"⟩ : MethodName)) (z := (⟨"com/example/holdback/holdback/sim/EventQueue", "add", "(IDLjava/lang/Runnable;)V"⟩ : MethodName)) hown (mvT hZ w_79) (mvT hZ w_80) (notFace_of_selects (args := #[]) (mvT hZ w_82)) (mvT hZ w_82) (mvT hZ w_81) (by decide) (backOf (W := 0) (rmAdd l Z a0 hw [] b2 fa_6 fp_6 wi_6 kf_6 kp_6 kw_6 ds2_23 ls2_23 wl2_23 zN_6 z2_6 ss_6 ks_6 vs_6 ff_6 (ta1.toInt) (((0 : Int) + 1)) sv2 (FP.i2d ta2) ta2 (1 : Int32) (((0 : Int64) + (1 : Int64))) T23.heap n0 zl26 G23_0 G23_1 G23_2 G23_3 G23_4 G23_5 G23_6 G23_7 G23_8 G23_9 Fz24 G23_11 F25 H23_0 H23_1 H23_2 H6_3 H6_4 H6_5 H6_6 H6_7 H6_8 H6_9 ge4 (by omega) (by rw [e_sv2]; exact own_rem _ (own_m7 _) h18 H6_10) (by rfl) (by omega)) hZ w_83 w_6 (by decide) (by decide)) q27a q27c (g := (mkF m 136 #[.val (.int xn), .val (.int xk), .val (.int xp), .val (.int xu), .val (.int xv), .val (.int ns), .val (.int (2 : Int32)), .val (.int r1_1), .val (.int ta1), .val (.int ta2), .val (.int ta3), .val (.int sv1), .val (.int sv2), .val (.int sv3), .val (.ref b2), .val (.int (1 : Int32))] [.null, (.double (FP.i2d ta2)), (.int sv2), (.ref b2)])) rfl (by rw [hml]; rfl) (Steps.refl _) (argsL := [(.int sv2), (.double (FP.i2d ta2)), .null]) (rest := []) (lenOf pd__28IDLjava_2flang_2fRunnable_3b_29V rfl) rfl (by show 2 * 0 + _ ≤ _; exact Nat.le_of_eq rfl) (hb hby at_136) (fun _ _ => ⟨rfl, rfl, (by decide : 37 + 0 ≤ _), (by decide : 286 + 0 ≤ _)⟩)
    dsimp only [Pt.U, Pt.locs, Pt.cells, Pt.slots] at X27 l27 y27 z27 st27 hQ27
    rw [l27, y27, z27] at X27
    obtain ⟨ds2_27, ls2_27, wl2_27, rfl, Nq27, Kp27, G27_0, G27_1, G27_2, G27_3, G27_4, G27_5, G27_6, G27_7, G27_8, G27_9, G27_10, G27_11, H27_0, H27_1, H27_2⟩ := hQ27
    have N27 := Fr.app N23 Nq27
    refine own_goT st27 ?_
    have le_27 : T23.heap.size ≤ T27.heap.size := Kp27.1
    have K27 : Keep h0 T27.heap (own_up n0 h0) := Keep.trans K23 Kp27 (fun x hx => own_up_or (own_up_ge hx))
    have Fz28 : Fld Z T27.heap b2 "com/example/holdback/holdback/sim/EventQueue" "size" "I" (.int (2 : Int32)) := G27_10
    refine own_go (fun _ => XS.iload X27.here hx rfl (hb hby at_139) rfl) ?_
    refine own_go (fun _ => XS.iconst X27.here hx rfl (hb hby at_141)) ?_
    show ∃ t o, Steps p.tables e below (T27.setTop (mkF m 142 #[.val (.int xn), .val (.int xk), .val (.int xp), .val (.int xu), .val (.int xv), .val (.int ns), .val (.int (2 : Int32)), .val (.int r1_1), .val (.int ta1), .val (.int ta2), .val (.int ta3), .val (.int sv1), .val (.int sv2), .val (.int sv3), .val (.ref b2), .val (.int (1 : Int32))] [(.int (3 : Int32)), (.int (2 : Int32))])) t ∧ _
    refine own_go (fun _ => XS.icmpYes X27.here hx rfl (pc0 := 142) (pc' := 156) rfl (hb hby at_142) rfl (tlt (by decide : (2 : Int32) < (3 : Int32))).1 (by decide) (by decide)) ?_
    refine own_go (fun _ => XS.iload X27.here hx rfl (hb hby at_156) rfl) ?_
    show ∃ t o, Steps p.tables e below (T27.setTop (mkF m 158 #[.val (.int xn), .val (.int xk), .val (.int xp), .val (.int xu), .val (.int xv), .val (.int ns), .val (.int (2 : Int32)), .val (.int r1_1), .val (.int ta1), .val (.int ta2), .val (.int ta3), .val (.int sv1), .val (.int sv2), .val (.int sv3), .val (.ref b2), .val (.int (1 : Int32))] [(.int (1 : Int32))])) t ∧ _
    refine own_go (fun _ => XS.ifNo X27.here hx rfl (hb hby at_158) rfl ((if0 _ _).trans (feq (by decide : ¬ ((1 : Int32) = (0 : Int32)))).1)) ?_
    refine own_go (fun _ => XS.aload X27.here hx rfl (hb hby at_161) rfl rfl) ?_
    show ∃ t o, Steps p.tables e below (T27.setTop (mkF m 163 #[.val (.int xn), .val (.int xk), .val (.int xp), .val (.int xu), .val (.int xv), .val (.int ns), .val (.int (2 : Int32)), .val (.int r1_1), .val (.int ta1), .val (.int ta2), .val (.int ta3), .val (.int sv1), .val (.int sv2), .val (.int sv3), .val (.ref b2), .val (.int (1 : Int32))] [(.ref b2)])) t ∧ _
    have F29 := (Old.keep F25 Kp27 (fun x hx => own_up_ge hx))
    have zl30 : n0 ≤ T27.heap.size := by omega
    obtain ⟨cq31, kq31, q31a, q31b, q31c⟩ := isOf hZ rfl G27_0
    obtain ⟨_, _, ⟨T31, L31, k31, n31⟩, -, X31, ⟨Lc31, hQ31, l31, y31, z31⟩, st31⟩ := X27.virtualBack hx (y := (⟨"com/example/holdback/holdback/sim/EventQueue", "isEmpty", "()Z"⟩ : MethodName)) (z := (⟨"com/example/holdback/holdback/sim/EventQueue", "isEmpty", "()Z"⟩ : MethodName)) hown (mvT hZ w_72) (mvT hZ w_73) (notFace_of_selects (args := #[]) (mvT hZ w_75)) (mvT hZ w_75) (mvT hZ w_74) (by decide) (backOf (W := 0) (rmE1 l Z a0 hw [] b2 (2 : Int32) T27.heap n0 zl30 Fz28 F29 (by decide)) hZ w_76 w_6 (by decide) (by decide)) q31a q31c (g := (mkF m 163 #[.val (.int xn), .val (.int xk), .val (.int xp), .val (.int xu), .val (.int xv), .val (.int ns), .val (.int (2 : Int32)), .val (.int r1_1), .val (.int ta1), .val (.int ta2), .val (.int ta3), .val (.int sv1), .val (.int sv2), .val (.int sv3), .val (.ref b2), .val (.int (1 : Int32))] [(.ref b2)])) rfl (by rw [hml]; rfl) (Steps.refl _) (argsL := []) (rest := []) (lenOf pd__28_29Z rfl) rfl (by show 2 * 0 + _ ≤ _; exact Nat.le_of_eq rfl) (hb hby at_163) (fun _ _ => ⟨rfl, rfl, (by decide : 37 + 0 ≤ _), (by decide : 286 + 0 ≤ _)⟩)
    dsimp only [Pt.U, Pt.locs, Pt.cells, Pt.slots] at X31 l31 y31 z31 st31 hQ31
    rw [l31, y31, z31] at X31
    obtain ⟨rfl, Nq31, e31⟩ := hQ31
    have N31 := Fr.app N27 Nq31
    refine own_goT st31 ?_
    refine own_go (fun _ => XS.iload X31.here hx rfl (hb hby at_166) rfl) ?_
    show ∃ t o, Steps p.tables e below (T31.setTop (mkF m 168 #[.val (.int xn), .val (.int xk), .val (.int xp), .val (.int xu), .val (.int xv), .val (.int ns), .val (.int (2 : Int32)), .val (.int r1_1), .val (.int ta1), .val (.int ta2), .val (.int ta3), .val (.int sv1), .val (.int sv2), .val (.int sv3), .val (.ref b2), .val (.int (1 : Int32))] [(.int (2 : Int32)), (.int (0 : Int32))])) t ∧ _
    refine own_go (fun _ => XS.ifYes X31.here hx rfl (pc0 := 168) (pc' := 175) rfl (hb hby at_168) rfl ((if0 _ _).trans (feq (by decide : ¬ ((2 : Int32) = (0 : Int32)))).2) (by decide) (by decide)) ?_
    refine own_go (fun _ => XS.iconst X31.here hx rfl (hb hby at_175)) ?_
    show ∃ t o, Steps p.tables e below (T31.setTop (mkF m 176 #[.val (.int xn), .val (.int xk), .val (.int xp), .val (.int xu), .val (.int xv), .val (.int ns), .val (.int (2 : Int32)), .val (.int r1_1), .val (.int ta1), .val (.int ta2), .val (.int ta3), .val (.int sv1), .val (.int sv2), .val (.int sv3), .val (.ref b2), .val (.int (1 : Int32))] [(.int (0 : Int32)), (.int (0 : Int32))])) t ∧ _
    refine own_go (fun _ => XS.icmpNo X31.here hx rfl (hb hby at_176) rfl (teq (by decide : (0 : Int32) = (0 : Int32))).2) ?_
    refine own_go (fun _ => XS.iconst X31.here hx rfl (hb hby at_179)) ?_
    refine own_go (fun _ => XS.goto X31.here hx rfl (pc0 := 180) (pc' := 184) rfl (hb hby at_180) (by decide) (by decide)) ?_
    refine own_go (fun _ => XS.istore X31.here hx rfl (hb hby at_184) rfl (l' := #[.val (.int xn), .val (.int xk), .val (.int xp), .val (.int xu), .val (.int xv), .val (.int ns), .val (.int (2 : Int32)), .val (.int r1_1), .val (.int ta1), .val (.int ta2), .val (.int ta3), .val (.int sv1), .val (.int sv2), .val (.int sv3), .val (.ref b2), .val (.int (1 : Int32))]) rfl) ?_
    refine own_go (fun _ => XS.iload X31.here hx rfl (hb hby at_186) rfl) ?_
    refine own_go (fun _ => XS.iconst X31.here hx rfl (hb hby at_188)) ?_
    show ∃ t o, Steps p.tables e below (T31.setTop (mkF m 189 #[.val (.int xn), .val (.int xk), .val (.int xp), .val (.int xu), .val (.int xv), .val (.int ns), .val (.int (2 : Int32)), .val (.int r1_1), .val (.int ta1), .val (.int ta2), .val (.int ta3), .val (.int sv1), .val (.int sv2), .val (.int sv3), .val (.ref b2), .val (.int (1 : Int32))] [(.int (1 : Int32)), (.int r1_1)])) t ∧ _
    have hj : r1_1 = (0 : Int32) ∨ r1_1 = (1 : Int32) ∨ r1_1 = (2 : Int32) := by rw [H1_0]; rcases own_and3 xp with q | q | q | q <;> rw [q] <;> decide
    rcases hj with hj | hj | hj
    · rw [hj]
      show ∃ t o, Steps p.tables e below (T31.setTop (mkF m 189 #[.val (.int xn), .val (.int xk), .val (.int xp), .val (.int xu), .val (.int xv), .val (.int ns), .val (.int (2 : Int32)), .val (.int (0 : Int32)), .val (.int ta1), .val (.int ta2), .val (.int ta3), .val (.int sv1), .val (.int sv2), .val (.int sv3), .val (.ref b2), .val (.int (1 : Int32))] [(.int (1 : Int32)), (.int (0 : Int32))])) t ∧ _
      refine own_go (fun _ => XS.icmpYes X31.here hx rfl (pc0 := 189) (pc' := 198) rfl (hb hby at_189) rfl (tlt (by decide : (0 : Int32) < (1 : Int32))).1 (by decide) (by decide)) ?_
      refine own_go (fun _ => XS.iload X31.here hx rfl (hb hby at_198) rfl) ?_
      refine own_go (fun _ => XS.iconst X31.here hx rfl (hb hby at_200)) ?_
      show ∃ t o, Steps p.tables e below (T31.setTop (mkF m 201 #[.val (.int xn), .val (.int xk), .val (.int xp), .val (.int xu), .val (.int xv), .val (.int ns), .val (.int (2 : Int32)), .val (.int (0 : Int32)), .val (.int ta1), .val (.int ta2), .val (.int ta3), .val (.int sv1), .val (.int sv2), .val (.int sv3), .val (.ref b2), .val (.int (1 : Int32))] [(.int (2 : Int32)), (.int (0 : Int32))])) t ∧ _
      refine own_go (fun _ => XS.icmpYes X31.here hx rfl (pc0 := 201) (pc' := 210) rfl (hb hby at_201) rfl (tlt (by decide : (0 : Int32) < (2 : Int32))).1 (by decide) (by decide)) ?_
      refine own_go (fun _ => XS.iload X31.here hx rfl (hb hby at_210) rfl) ?_
      refine own_go (fun _ => XS.iconst X31.here hx rfl (hb hby at_212)) ?_
      show ∃ t o, Steps p.tables e below (T31.setTop (mkF m 213 #[.val (.int xn), .val (.int xk), .val (.int xp), .val (.int xu), .val (.int xv), .val (.int ns), .val (.int (2 : Int32)), .val (.int (0 : Int32)), .val (.int ta1), .val (.int ta2), .val (.int ta3), .val (.int sv1), .val (.int sv2), .val (.int sv3), .val (.ref b2), .val (.int (1 : Int32))] [(.int (3 : Int32)), (.int (0 : Int32))])) t ∧ _
      refine own_go (fun _ => XS.icmpYes X31.here hx rfl (pc0 := 213) (pc' := 222) rfl (hb hby at_213) rfl (tlt (by decide : (0 : Int32) < (3 : Int32))).1 (by decide) (by decide)) ?_
      refine own_go (fun _ => XS.iload X31.here hx rfl (hb hby at_222) rfl) ?_
      show ∃ t o, Steps p.tables e below (T31.setTop (mkF m 224 #[.val (.int xn), .val (.int xk), .val (.int xp), .val (.int xu), .val (.int xv), .val (.int ns), .val (.int (2 : Int32)), .val (.int (0 : Int32)), .val (.int ta1), .val (.int ta2), .val (.int ta3), .val (.int sv1), .val (.int sv2), .val (.int sv3), .val (.ref b2), .val (.int (1 : Int32))] [(.int (1 : Int32))])) t ∧ _
      refine own_go (fun _ => XS.ifNo X31.here hx rfl (hb hby at_224) rfl ((if0 _ _).trans (feq (by decide : ¬ ((1 : Int32) = (0 : Int32)))).1)) ?_
      refine own_go (fun _ => XS.aload X31.here hx rfl (hb hby at_227) rfl rfl) ?_
      show ∃ t o, Steps p.tables e below (T31.setTop (mkF m 229 #[.val (.int xn), .val (.int xk), .val (.int xp), .val (.int xu), .val (.int xv), .val (.int ns), .val (.int (2 : Int32)), .val (.int (0 : Int32)), .val (.int ta1), .val (.int ta2), .val (.int ta3), .val (.int sv1), .val (.int sv2), .val (.int sv3), .val (.ref b2), .val (.int (1 : Int32))] [(.ref b2)])) t ∧ _
      obtain ⟨cq32, kq32, q32a, q32b, q32c⟩ := isOf hZ e31 G27_0
      obtain ⟨_, _, ⟨T32, L32, k32, n32⟩, -, X32, ⟨Lc32, hQ32, l32, y32, z32⟩, st32⟩ := X31.virtualBack hx (y := (⟨"com/example/holdback/holdback/sim/EventQueue", "isEmpty", "()Z"⟩ : MethodName)) (z := (⟨"com/example/holdback/holdback/sim/EventQueue", "isEmpty", "()Z"⟩ : MethodName)) hown (mvT hZ w_72) (mvT hZ w_73) (notFace_of_selects (args := #[]) (mvT hZ w_75)) (mvT hZ w_75) (mvT hZ w_74) (by decide) (backOf (W := 0) (rmE1 l Z a0 hw [] b2 (2 : Int32) T27.heap n0 zl30 Fz28 F29 (by decide)) hZ w_76 w_6 (by decide) (by decide)) q32a q32c (g := (mkF m 229 #[.val (.int xn), .val (.int xk), .val (.int xp), .val (.int xu), .val (.int xv), .val (.int ns), .val (.int (2 : Int32)), .val (.int (0 : Int32)), .val (.int ta1), .val (.int ta2), .val (.int ta3), .val (.int sv1), .val (.int sv2), .val (.int sv3), .val (.ref b2), .val (.int (1 : Int32))] [(.ref b2)])) rfl (by rw [hml]; rfl) (Steps.refl _) (argsL := []) (rest := []) (lenOf pd__28_29Z rfl) rfl (by show 2 * 0 + _ ≤ _; exact Nat.le_of_eq rfl) (hb hby at_229) (fun _ _ => ⟨rfl, e31, (by decide : 37 + 0 ≤ _), (by decide : 286 + 0 ≤ _)⟩)
      dsimp only [Pt.U, Pt.locs, Pt.cells, Pt.slots] at X32 l32 y32 z32 st32 hQ32
      rw [l32, y32, z32] at X32
      obtain ⟨rfl, Nq32, e32⟩ := hQ32
      have N32 := Fr.app N31 Nq32
      refine own_goT st32 ?_
      refine own_go (fun _ => XS.iload X32.here hx rfl (hb hby at_232) rfl) ?_
      refine own_go (fun _ => XS.iload X32.here hx rfl (hb hby at_234) rfl) ?_
      refine own_go (fun _ => XS.isub X32.here hx rfl (hb hby at_236) rfl) ?_
      show ∃ t o, Steps p.tables e below (T32.setTop (mkF m 237 #[.val (.int xn), .val (.int xk), .val (.int xp), .val (.int xu), .val (.int xv), .val (.int ns), .val (.int (2 : Int32)), .val (.int (0 : Int32)), .val (.int ta1), .val (.int ta2), .val (.int ta3), .val (.int sv1), .val (.int sv2), .val (.int sv3), .val (.ref b2), .val (.int (1 : Int32))] [(.int (2 : Int32)), (.int (0 : Int32))])) t ∧ _
      refine own_go (fun _ => XS.ifYes X32.here hx rfl (pc0 := 237) (pc' := 244) rfl (hb hby at_237) rfl ((if0 _ _).trans (feq (by decide : ¬ ((2 : Int32) = (0 : Int32)))).2) (by decide) (by decide)) ?_
      refine own_go (fun _ => XS.iconst X32.here hx rfl (hb hby at_244)) ?_
      show ∃ t o, Steps p.tables e below (T32.setTop (mkF m 245 #[.val (.int xn), .val (.int xk), .val (.int xp), .val (.int xu), .val (.int xv), .val (.int ns), .val (.int (2 : Int32)), .val (.int (0 : Int32)), .val (.int ta1), .val (.int ta2), .val (.int ta3), .val (.int sv1), .val (.int sv2), .val (.int sv3), .val (.ref b2), .val (.int (1 : Int32))] [(.int (0 : Int32)), (.int (0 : Int32))])) t ∧ _
      refine own_go (fun _ => XS.icmpNo X32.here hx rfl (hb hby at_245) rfl (teq (by decide : (0 : Int32) = (0 : Int32))).2) ?_
      refine own_go (fun _ => XS.iconst X32.here hx rfl (hb hby at_248)) ?_
      refine own_go (fun _ => XS.goto X32.here hx rfl (pc0 := 249) (pc' := 253) rfl (hb hby at_249) (by decide) (by decide)) ?_
      refine own_go (fun _ => XS.istore X32.here hx rfl (hb hby at_253) rfl (l' := #[.val (.int xn), .val (.int xk), .val (.int xp), .val (.int xu), .val (.int xv), .val (.int ns), .val (.int (2 : Int32)), .val (.int (0 : Int32)), .val (.int ta1), .val (.int ta2), .val (.int ta3), .val (.int sv1), .val (.int sv2), .val (.int sv3), .val (.ref b2), .val (.int (1 : Int32))]) rfl) ?_
      refine own_go (fun _ => XS.iload X32.here hx rfl (hb hby at_255) rfl) ?_
      show ∃ t o, Steps p.tables e below (T32.setTop (mkF m 257 #[.val (.int xn), .val (.int xk), .val (.int xp), .val (.int xu), .val (.int xv), .val (.int ns), .val (.int (2 : Int32)), .val (.int (0 : Int32)), .val (.int ta1), .val (.int ta2), .val (.int ta3), .val (.int sv1), .val (.int sv2), .val (.int sv3), .val (.ref b2), .val (.int (1 : Int32))] [(.int (1 : Int32))])) t ∧ _
      obtain ⟨fs, hr, hrun, hended, hW, hsame⟩ := X32.leave (v := some (.int (1 : Int32))) (fun h => by rw [Bd.returns] at h; cases h)
      refine ⟨_, _, ?_, hrun, hended, _, _, rfl, ?_, ⟨_, rfl⟩, hW, hsame.mono (by decide) (by decide)⟩
      · exact retN X32 hx (t := .boolean) Bd.returns (by simp) (hb hby at_257) hr
      · show Q_rm0 Z _ _ _ _ _ h0 n0 _ T32.heap _
        rw [e32]
        exact ⟨rfl, N32, K27⟩
    · rw [hj]
      show ∃ t o, Steps p.tables e below (T31.setTop (mkF m 189 #[.val (.int xn), .val (.int xk), .val (.int xp), .val (.int xu), .val (.int xv), .val (.int ns), .val (.int (2 : Int32)), .val (.int (1 : Int32)), .val (.int ta1), .val (.int ta2), .val (.int ta3), .val (.int sv1), .val (.int sv2), .val (.int sv3), .val (.ref b2), .val (.int (1 : Int32))] [(.int (1 : Int32)), (.int (1 : Int32))])) t ∧ _
      refine own_go (fun _ => XS.icmpNo X31.here hx rfl (hb hby at_189) rfl (flt (by decide : ¬ ((1 : Int32) < (1 : Int32)))).1) ?_
      refine own_go (fun _ => XS.aload X31.here hx rfl (hb hby at_192) rfl rfl) ?_
      show ∃ t o, Steps p.tables e below (T31.setTop (mkF m 194 #[.val (.int xn), .val (.int xk), .val (.int xp), .val (.int xu), .val (.int xv), .val (.int ns), .val (.int (2 : Int32)), .val (.int (1 : Int32)), .val (.int ta1), .val (.int ta2), .val (.int ta3), .val (.int sv1), .val (.int sv2), .val (.int sv3), .val (.ref b2), .val (.int (1 : Int32))] [(.ref b2)])) t ∧ _
      obtain ⟨cq33, kq33, q33a, q33b, q33c⟩ := isOf hZ e31 G27_0
      obtain ⟨_, _, ⟨T33, L33, k33, n33⟩, -, X33, ⟨Lc33, hQ33, l33, y33, z33⟩, st33⟩ := X31.virtualBack hx (y := (⟨"com/example/holdback/holdback/sim/EventQueue", "poll", "()Ljava/lang/Runnable;"⟩ : MethodName)) (z := (⟨"com/example/holdback/holdback/sim/EventQueue", "poll", "()Ljava/lang/Runnable;"⟩ : MethodName)) hown (mvT hZ w_106) (mvT hZ w_107) (notFace_of_selects (args := #[]) (mvT hZ w_109)) (mvT hZ w_109) (mvT hZ w_108) (by decide) (backOf (W := 0) (rmPoll l Z a0 hw [] b2 fa_6 fp_6 wi_6 kf_6 kp_6 kw_6 ds2_27 ls2_27 wl2_27 zN_6 z2_6 ss_6 ks_6 vs_6 ff_6 (ta2.toInt) ((((0 : Int) + 1) + 1)) (2 : Int32) ((((0 : Int64) + (1 : Int64)) + (1 : Int64))) T27.heap n0 zl30 G27_0 G27_1 G27_2 G27_3 G27_4 G27_5 G27_6 G27_7 G27_8 G27_9 Fz28 G27_11 F29 H27_0 H27_1 H27_2 H6_3 H6_4 H6_5 H6_6 H6_7 H6_8 H6_9 ge4 (by omega) (by decide)) hZ w_110 w_6 (by decide) (by decide)) q33a q33c (g := (mkF m 194 #[.val (.int xn), .val (.int xk), .val (.int xp), .val (.int xu), .val (.int xv), .val (.int ns), .val (.int (2 : Int32)), .val (.int (1 : Int32)), .val (.int ta1), .val (.int ta2), .val (.int ta3), .val (.int sv1), .val (.int sv2), .val (.int sv3), .val (.ref b2), .val (.int (1 : Int32))] [(.ref b2)])) rfl (by rw [hml]; rfl) (Steps.refl _) (argsL := []) (rest := []) (lenOf pd__28_29Ljava_2flang_2fRunnable_3b rfl) rfl (by show 2 * 0 + _ ≤ _; exact Nat.le_of_eq rfl) (hb hby at_194) (fun _ _ => ⟨rfl, e31, (by decide : 37 + 0 ≤ _), (by decide : 286 + 0 ≤ _)⟩)
      dsimp only [Pt.U, Pt.locs, Pt.cells, Pt.slots] at X33 l33 y33 z33 st33 hQ33
      rw [l33, y33, z33] at X33
      obtain ⟨ds2_33, ls2_33, wl2_33, rfl, Nq33, Kp33, G33_0, G33_1, G33_2, G33_3, G33_4, G33_5, G33_6, G33_7, G33_8, G33_9, G33_10, G33_11, H33_0, H33_1, H33_2⟩ := hQ33
      have N33 := Fr.app N31 Nq33
      refine own_goT st33 ?_
      have le_33 : T27.heap.size ≤ T33.heap.size := Kp33.1
      have K33 : Keep h0 T33.heap (own_up n0 h0) := Keep.trans K27 Kp33 (fun x hx => own_up_or (own_up_ge hx))
      have Fz34 : Fld Z T33.heap b2 "com/example/holdback/holdback/sim/EventQueue" "size" "I" (.int (1 : Int32)) := G33_10
      refine own_go (fun _ => XS.pop X33.here hx rfl (hb hby at_197) rfl rfl) ?_
      refine own_go (fun _ => XS.iload X33.here hx rfl (hb hby at_198) rfl) ?_
      refine own_go (fun _ => XS.iconst X33.here hx rfl (hb hby at_200)) ?_
      show ∃ t o, Steps p.tables e below (T33.setTop (mkF m 201 #[.val (.int xn), .val (.int xk), .val (.int xp), .val (.int xu), .val (.int xv), .val (.int ns), .val (.int (2 : Int32)), .val (.int (1 : Int32)), .val (.int ta1), .val (.int ta2), .val (.int ta3), .val (.int sv1), .val (.int sv2), .val (.int sv3), .val (.ref b2), .val (.int (1 : Int32))] [(.int (2 : Int32)), (.int (1 : Int32))])) t ∧ _
      refine own_go (fun _ => XS.icmpYes X33.here hx rfl (pc0 := 201) (pc' := 210) rfl (hb hby at_201) rfl (tlt (by decide : (1 : Int32) < (2 : Int32))).1 (by decide) (by decide)) ?_
      refine own_go (fun _ => XS.iload X33.here hx rfl (hb hby at_210) rfl) ?_
      refine own_go (fun _ => XS.iconst X33.here hx rfl (hb hby at_212)) ?_
      show ∃ t o, Steps p.tables e below (T33.setTop (mkF m 213 #[.val (.int xn), .val (.int xk), .val (.int xp), .val (.int xu), .val (.int xv), .val (.int ns), .val (.int (2 : Int32)), .val (.int (1 : Int32)), .val (.int ta1), .val (.int ta2), .val (.int ta3), .val (.int sv1), .val (.int sv2), .val (.int sv3), .val (.ref b2), .val (.int (1 : Int32))] [(.int (3 : Int32)), (.int (1 : Int32))])) t ∧ _
      refine own_go (fun _ => XS.icmpYes X33.here hx rfl (pc0 := 213) (pc' := 222) rfl (hb hby at_213) rfl (tlt (by decide : (1 : Int32) < (3 : Int32))).1 (by decide) (by decide)) ?_
      refine own_go (fun _ => XS.iload X33.here hx rfl (hb hby at_222) rfl) ?_
      show ∃ t o, Steps p.tables e below (T33.setTop (mkF m 224 #[.val (.int xn), .val (.int xk), .val (.int xp), .val (.int xu), .val (.int xv), .val (.int ns), .val (.int (2 : Int32)), .val (.int (1 : Int32)), .val (.int ta1), .val (.int ta2), .val (.int ta3), .val (.int sv1), .val (.int sv2), .val (.int sv3), .val (.ref b2), .val (.int (1 : Int32))] [(.int (1 : Int32))])) t ∧ _
      refine own_go (fun _ => XS.ifNo X33.here hx rfl (hb hby at_224) rfl ((if0 _ _).trans (feq (by decide : ¬ ((1 : Int32) = (0 : Int32)))).1)) ?_
      refine own_go (fun _ => XS.aload X33.here hx rfl (hb hby at_227) rfl rfl) ?_
      show ∃ t o, Steps p.tables e below (T33.setTop (mkF m 229 #[.val (.int xn), .val (.int xk), .val (.int xp), .val (.int xu), .val (.int xv), .val (.int ns), .val (.int (2 : Int32)), .val (.int (1 : Int32)), .val (.int ta1), .val (.int ta2), .val (.int ta3), .val (.int sv1), .val (.int sv2), .val (.int sv3), .val (.ref b2), .val (.int (1 : Int32))] [(.ref b2)])) t ∧ _
      have F35 := (Old.keep F29 Kp33 (fun x hx => own_up_ge hx))
      have zl36 : n0 ≤ T33.heap.size := by omega
      obtain ⟨cq37, kq37, q37a, q37b, q37c⟩ := isOf hZ rfl G33_0
      obtain ⟨_, _, ⟨T37, L37, k37, n37⟩, -, X37, ⟨Lc37, hQ37, l37, y37, z37⟩, st37⟩ := X33.virtualBack hx (y := (⟨"com/example/holdback/holdback/sim/EventQueue", "isEmpty", "()Z"⟩ : MethodName)) (z := (⟨"com/example/holdback/holdback/sim/EventQueue", "isEmpty", "()Z"⟩ : MethodName)) hown (mvT hZ w_72) (mvT hZ w_73) (notFace_of_selects (args := #[]) (mvT hZ w_75)) (mvT hZ w_75) (mvT hZ w_74) (by decide) (backOf (W := 0) (rmE1 l Z a0 hw [] b2 (1 : Int32) T33.heap n0 zl36 Fz34 F35 (by decide)) hZ w_76 w_6 (by decide) (by decide)) q37a q37c (g := (mkF m 229 #[.val (.int xn), .val (.int xk), .val (.int xp), .val (.int xu), .val (.int xv), .val (.int ns), .val (.int (2 : Int32)), .val (.int (1 : Int32)), .val (.int ta1), .val (.int ta2), .val (.int ta3), .val (.int sv1), .val (.int sv2), .val (.int sv3), .val (.ref b2), .val (.int (1 : Int32))] [(.ref b2)])) rfl (by rw [hml]; rfl) (Steps.refl _) (argsL := []) (rest := []) (lenOf pd__28_29Z rfl) rfl (by show 2 * 0 + _ ≤ _; exact Nat.le_of_eq rfl) (hb hby at_229) (fun _ _ => ⟨rfl, rfl, (by decide : 37 + 0 ≤ _), (by decide : 286 + 0 ≤ _)⟩)
      dsimp only [Pt.U, Pt.locs, Pt.cells, Pt.slots] at X37 l37 y37 z37 st37 hQ37
      rw [l37, y37, z37] at X37
      obtain ⟨rfl, Nq37, e37⟩ := hQ37
      have N37 := Fr.app N33 Nq37
      refine own_goT st37 ?_
      refine own_go (fun _ => XS.iload X37.here hx rfl (hb hby at_232) rfl) ?_
      refine own_go (fun _ => XS.iload X37.here hx rfl (hb hby at_234) rfl) ?_
      refine own_go (fun _ => XS.isub X37.here hx rfl (hb hby at_236) rfl) ?_
      show ∃ t o, Steps p.tables e below (T37.setTop (mkF m 237 #[.val (.int xn), .val (.int xk), .val (.int xp), .val (.int xu), .val (.int xv), .val (.int ns), .val (.int (2 : Int32)), .val (.int (1 : Int32)), .val (.int ta1), .val (.int ta2), .val (.int ta3), .val (.int sv1), .val (.int sv2), .val (.int sv3), .val (.ref b2), .val (.int (1 : Int32))] [(.int (1 : Int32)), (.int (0 : Int32))])) t ∧ _
      refine own_go (fun _ => XS.ifYes X37.here hx rfl (pc0 := 237) (pc' := 244) rfl (hb hby at_237) rfl ((if0 _ _).trans (feq (by decide : ¬ ((1 : Int32) = (0 : Int32)))).2) (by decide) (by decide)) ?_
      refine own_go (fun _ => XS.iconst X37.here hx rfl (hb hby at_244)) ?_
      show ∃ t o, Steps p.tables e below (T37.setTop (mkF m 245 #[.val (.int xn), .val (.int xk), .val (.int xp), .val (.int xu), .val (.int xv), .val (.int ns), .val (.int (2 : Int32)), .val (.int (1 : Int32)), .val (.int ta1), .val (.int ta2), .val (.int ta3), .val (.int sv1), .val (.int sv2), .val (.int sv3), .val (.ref b2), .val (.int (1 : Int32))] [(.int (0 : Int32)), (.int (0 : Int32))])) t ∧ _
      refine own_go (fun _ => XS.icmpNo X37.here hx rfl (hb hby at_245) rfl (teq (by decide : (0 : Int32) = (0 : Int32))).2) ?_
      refine own_go (fun _ => XS.iconst X37.here hx rfl (hb hby at_248)) ?_
      refine own_go (fun _ => XS.goto X37.here hx rfl (pc0 := 249) (pc' := 253) rfl (hb hby at_249) (by decide) (by decide)) ?_
      refine own_go (fun _ => XS.istore X37.here hx rfl (hb hby at_253) rfl (l' := #[.val (.int xn), .val (.int xk), .val (.int xp), .val (.int xu), .val (.int xv), .val (.int ns), .val (.int (2 : Int32)), .val (.int (1 : Int32)), .val (.int ta1), .val (.int ta2), .val (.int ta3), .val (.int sv1), .val (.int sv2), .val (.int sv3), .val (.ref b2), .val (.int (1 : Int32))]) rfl) ?_
      refine own_go (fun _ => XS.iload X37.here hx rfl (hb hby at_255) rfl) ?_
      show ∃ t o, Steps p.tables e below (T37.setTop (mkF m 257 #[.val (.int xn), .val (.int xk), .val (.int xp), .val (.int xu), .val (.int xv), .val (.int ns), .val (.int (2 : Int32)), .val (.int (1 : Int32)), .val (.int ta1), .val (.int ta2), .val (.int ta3), .val (.int sv1), .val (.int sv2), .val (.int sv3), .val (.ref b2), .val (.int (1 : Int32))] [(.int (1 : Int32))])) t ∧ _
      obtain ⟨fs, hr, hrun, hended, hW, hsame⟩ := X37.leave (v := some (.int (1 : Int32))) (fun h => by rw [Bd.returns] at h; cases h)
      refine ⟨_, _, ?_, hrun, hended, _, _, rfl, ?_, ⟨_, rfl⟩, hW, hsame.mono (by decide) (by decide)⟩
      · exact retN X37 hx (t := .boolean) Bd.returns (by simp) (hb hby at_257) hr
      · show Q_rm0 Z _ _ _ _ _ h0 n0 _ T37.heap _
        rw [e37]
        exact ⟨rfl, N37, K33⟩
    · rw [hj]
      show ∃ t o, Steps p.tables e below (T31.setTop (mkF m 189 #[.val (.int xn), .val (.int xk), .val (.int xp), .val (.int xu), .val (.int xv), .val (.int ns), .val (.int (2 : Int32)), .val (.int (2 : Int32)), .val (.int ta1), .val (.int ta2), .val (.int ta3), .val (.int sv1), .val (.int sv2), .val (.int sv3), .val (.ref b2), .val (.int (1 : Int32))] [(.int (1 : Int32)), (.int (2 : Int32))])) t ∧ _
      refine own_go (fun _ => XS.icmpNo X31.here hx rfl (hb hby at_189) rfl (flt (by decide : ¬ ((2 : Int32) < (1 : Int32)))).1) ?_
      refine own_go (fun _ => XS.aload X31.here hx rfl (hb hby at_192) rfl rfl) ?_
      show ∃ t o, Steps p.tables e below (T31.setTop (mkF m 194 #[.val (.int xn), .val (.int xk), .val (.int xp), .val (.int xu), .val (.int xv), .val (.int ns), .val (.int (2 : Int32)), .val (.int (2 : Int32)), .val (.int ta1), .val (.int ta2), .val (.int ta3), .val (.int sv1), .val (.int sv2), .val (.int sv3), .val (.ref b2), .val (.int (1 : Int32))] [(.ref b2)])) t ∧ _
      obtain ⟨cq38, kq38, q38a, q38b, q38c⟩ := isOf hZ e31 G27_0
      obtain ⟨_, _, ⟨T38, L38, k38, n38⟩, -, X38, ⟨Lc38, hQ38, l38, y38, z38⟩, st38⟩ := X31.virtualBack hx (y := (⟨"com/example/holdback/holdback/sim/EventQueue", "poll", "()Ljava/lang/Runnable;"⟩ : MethodName)) (z := (⟨"com/example/holdback/holdback/sim/EventQueue", "poll", "()Ljava/lang/Runnable;"⟩ : MethodName)) hown (mvT hZ w_106) (mvT hZ w_107) (notFace_of_selects (args := #[]) (mvT hZ w_109)) (mvT hZ w_109) (mvT hZ w_108) (by decide) (backOf (W := 0) (rmPoll l Z a0 hw [] b2 fa_6 fp_6 wi_6 kf_6 kp_6 kw_6 ds2_27 ls2_27 wl2_27 zN_6 z2_6 ss_6 ks_6 vs_6 ff_6 (ta2.toInt) ((((0 : Int) + 1) + 1)) (2 : Int32) ((((0 : Int64) + (1 : Int64)) + (1 : Int64))) T27.heap n0 zl30 G27_0 G27_1 G27_2 G27_3 G27_4 G27_5 G27_6 G27_7 G27_8 G27_9 Fz28 G27_11 F29 H27_0 H27_1 H27_2 H6_3 H6_4 H6_5 H6_6 H6_7 H6_8 H6_9 ge4 (by omega) (by decide)) hZ w_110 w_6 (by decide) (by decide)) q38a q38c (g := (mkF m 194 #[.val (.int xn), .val (.int xk), .val (.int xp), .val (.int xu), .val (.int xv), .val (.int ns), .val (.int (2 : Int32)), .val (.int (2 : Int32)), .val (.int ta1), .val (.int ta2), .val (.int ta3), .val (.int sv1), .val (.int sv2), .val (.int sv3), .val (.ref b2), .val (.int (1 : Int32))] [(.ref b2)])) rfl (by rw [hml]; rfl) (Steps.refl _) (argsL := []) (rest := []) (lenOf pd__28_29Ljava_2flang_2fRunnable_3b rfl) rfl (by show 2 * 0 + _ ≤ _; exact Nat.le_of_eq rfl) (hb hby at_194) (fun _ _ => ⟨rfl, e31, (by decide : 37 + 0 ≤ _), (by decide : 286 + 0 ≤ _)⟩)
      dsimp only [Pt.U, Pt.locs, Pt.cells, Pt.slots] at X38 l38 y38 z38 st38 hQ38
      rw [l38, y38, z38] at X38
      obtain ⟨ds2_38, ls2_38, wl2_38, rfl, Nq38, Kp38, G38_0, G38_1, G38_2, G38_3, G38_4, G38_5, G38_6, G38_7, G38_8, G38_9, G38_10, G38_11, H38_0, H38_1, H38_2⟩ := hQ38
      have N38 := Fr.app N31 Nq38
      refine own_goT st38 ?_
      have le_38 : T27.heap.size ≤ T38.heap.size := Kp38.1
      have K38 : Keep h0 T38.heap (own_up n0 h0) := Keep.trans K27 Kp38 (fun x hx => own_up_or (own_up_ge hx))
      have Fz39 : Fld Z T38.heap b2 "com/example/holdback/holdback/sim/EventQueue" "size" "I" (.int (1 : Int32)) := G38_10
      refine own_go (fun _ => XS.pop X38.here hx rfl (hb hby at_197) rfl rfl) ?_
      refine own_go (fun _ => XS.iload X38.here hx rfl (hb hby at_198) rfl) ?_
      refine own_go (fun _ => XS.iconst X38.here hx rfl (hb hby at_200)) ?_
      show ∃ t o, Steps p.tables e below (T38.setTop (mkF m 201 #[.val (.int xn), .val (.int xk), .val (.int xp), .val (.int xu), .val (.int xv), .val (.int ns), .val (.int (2 : Int32)), .val (.int (2 : Int32)), .val (.int ta1), .val (.int ta2), .val (.int ta3), .val (.int sv1), .val (.int sv2), .val (.int sv3), .val (.ref b2), .val (.int (1 : Int32))] [(.int (2 : Int32)), (.int (2 : Int32))])) t ∧ _
      refine own_go (fun _ => XS.icmpNo X38.here hx rfl (hb hby at_201) rfl (flt (by decide : ¬ ((2 : Int32) < (2 : Int32)))).1) ?_
      refine own_go (fun _ => XS.aload X38.here hx rfl (hb hby at_204) rfl rfl) ?_
      show ∃ t o, Steps p.tables e below (T38.setTop (mkF m 206 #[.val (.int xn), .val (.int xk), .val (.int xp), .val (.int xu), .val (.int xv), .val (.int ns), .val (.int (2 : Int32)), .val (.int (2 : Int32)), .val (.int ta1), .val (.int ta2), .val (.int ta3), .val (.int sv1), .val (.int sv2), .val (.int sv3), .val (.ref b2), .val (.int (1 : Int32))] [(.ref b2)])) t ∧ _
      have F40 := (Old.keep F29 Kp38 (fun x hx => own_up_ge hx))
      have zl41 : n0 ≤ T38.heap.size := by omega
      obtain ⟨cq42, kq42, q42a, q42b, q42c⟩ := isOf hZ rfl G38_0
      obtain ⟨_, _, ⟨T42, L42, k42, n42⟩, -, X42, ⟨Lc42, hQ42, l42, y42, z42⟩, st42⟩ := X38.virtualBack hx (y := (⟨"com/example/holdback/holdback/sim/EventQueue", "poll", "()Ljava/lang/Runnable;"⟩ : MethodName)) (z := (⟨"com/example/holdback/holdback/sim/EventQueue", "poll", "()Ljava/lang/Runnable;"⟩ : MethodName)) hown (mvT hZ w_106) (mvT hZ w_107) (notFace_of_selects (args := #[]) (mvT hZ w_109)) (mvT hZ w_109) (mvT hZ w_108) (by decide) (backOf (W := 0) (rmPoll l Z a0 hw [] b2 fa_6 fp_6 wi_6 kf_6 kp_6 kw_6 ds2_38 ls2_38 wl2_38 zN_6 z2_6 ss_6 ks_6 vs_6 ff_6 (ta2.toInt) (((((0 : Int) + 1) + 1) + 1)) (1 : Int32) ((((0 : Int64) + (1 : Int64)) + (1 : Int64))) T38.heap n0 zl41 G38_0 G38_1 G38_2 G38_3 G38_4 G38_5 G38_6 G38_7 G38_8 G38_9 Fz39 G38_11 F40 H38_0 H38_1 H38_2 H6_3 H6_4 H6_5 H6_6 H6_7 H6_8 H6_9 ge4 (by omega) (by decide)) hZ w_110 w_6 (by decide) (by decide)) q42a q42c (g := (mkF m 206 #[.val (.int xn), .val (.int xk), .val (.int xp), .val (.int xu), .val (.int xv), .val (.int ns), .val (.int (2 : Int32)), .val (.int (2 : Int32)), .val (.int ta1), .val (.int ta2), .val (.int ta3), .val (.int sv1), .val (.int sv2), .val (.int sv3), .val (.ref b2), .val (.int (1 : Int32))] [(.ref b2)])) rfl (by rw [hml]; rfl) (Steps.refl _) (argsL := []) (rest := []) (lenOf pd__28_29Ljava_2flang_2fRunnable_3b rfl) rfl (by show 2 * 0 + _ ≤ _; exact Nat.le_of_eq rfl) (hb hby at_206) (fun _ _ => ⟨rfl, rfl, (by decide : 37 + 0 ≤ _), (by decide : 286 + 0 ≤ _)⟩)
      dsimp only [Pt.U, Pt.locs, Pt.cells, Pt.slots] at X42 l42 y42 z42 st42 hQ42
      rw [l42, y42, z42] at X42
      obtain ⟨ds2_42, ls2_42, wl2_42, rfl, Nq42, Kp42, G42_0, G42_1, G42_2, G42_3, G42_4, G42_5, G42_6, G42_7, G42_8, G42_9, G42_10, G42_11, H42_0, H42_1, H42_2⟩ := hQ42
      have N42 := Fr.app N38 Nq42
      refine own_goT st42 ?_
      have le_42 : T38.heap.size ≤ T42.heap.size := Kp42.1
      have K42 : Keep h0 T42.heap (own_up n0 h0) := Keep.trans K38 Kp42 (fun x hx => own_up_or (own_up_ge hx))
      have Fz43 : Fld Z T42.heap b2 "com/example/holdback/holdback/sim/EventQueue" "size" "I" (.int (0 : Int32)) := G42_10
      refine own_go (fun _ => XS.pop X42.here hx rfl (hb hby at_209) rfl rfl) ?_
      refine own_go (fun _ => XS.iload X42.here hx rfl (hb hby at_210) rfl) ?_
      refine own_go (fun _ => XS.iconst X42.here hx rfl (hb hby at_212)) ?_
      show ∃ t o, Steps p.tables e below (T42.setTop (mkF m 213 #[.val (.int xn), .val (.int xk), .val (.int xp), .val (.int xu), .val (.int xv), .val (.int ns), .val (.int (2 : Int32)), .val (.int (2 : Int32)), .val (.int ta1), .val (.int ta2), .val (.int ta3), .val (.int sv1), .val (.int sv2), .val (.int sv3), .val (.ref b2), .val (.int (1 : Int32))] [(.int (3 : Int32)), (.int (2 : Int32))])) t ∧ _
      refine own_go (fun _ => XS.icmpYes X42.here hx rfl (pc0 := 213) (pc' := 222) rfl (hb hby at_213) rfl (tlt (by decide : (2 : Int32) < (3 : Int32))).1 (by decide) (by decide)) ?_
      refine own_go (fun _ => XS.iload X42.here hx rfl (hb hby at_222) rfl) ?_
      show ∃ t o, Steps p.tables e below (T42.setTop (mkF m 224 #[.val (.int xn), .val (.int xk), .val (.int xp), .val (.int xu), .val (.int xv), .val (.int ns), .val (.int (2 : Int32)), .val (.int (2 : Int32)), .val (.int ta1), .val (.int ta2), .val (.int ta3), .val (.int sv1), .val (.int sv2), .val (.int sv3), .val (.ref b2), .val (.int (1 : Int32))] [(.int (1 : Int32))])) t ∧ _
      refine own_go (fun _ => XS.ifNo X42.here hx rfl (hb hby at_224) rfl ((if0 _ _).trans (feq (by decide : ¬ ((1 : Int32) = (0 : Int32)))).1)) ?_
      refine own_go (fun _ => XS.aload X42.here hx rfl (hb hby at_227) rfl rfl) ?_
      show ∃ t o, Steps p.tables e below (T42.setTop (mkF m 229 #[.val (.int xn), .val (.int xk), .val (.int xp), .val (.int xu), .val (.int xv), .val (.int ns), .val (.int (2 : Int32)), .val (.int (2 : Int32)), .val (.int ta1), .val (.int ta2), .val (.int ta3), .val (.int sv1), .val (.int sv2), .val (.int sv3), .val (.ref b2), .val (.int (1 : Int32))] [(.ref b2)])) t ∧ _
      have F44 := (Old.keep F40 Kp42 (fun x hx => own_up_ge hx))
      have zl45 : n0 ≤ T42.heap.size := by omega
      obtain ⟨cq46, kq46, q46a, q46b, q46c⟩ := isOf hZ rfl G42_0
      obtain ⟨_, _, ⟨T46, L46, k46, n46⟩, -, X46, ⟨Lc46, hQ46, l46, y46, z46⟩, st46⟩ := X42.virtualBack hx (y := (⟨"com/example/holdback/holdback/sim/EventQueue", "isEmpty", "()Z"⟩ : MethodName)) (z := (⟨"com/example/holdback/holdback/sim/EventQueue", "isEmpty", "()Z"⟩ : MethodName)) hown (mvT hZ w_72) (mvT hZ w_73) (notFace_of_selects (args := #[]) (mvT hZ w_75)) (mvT hZ w_75) (mvT hZ w_74) (by decide) (backOf (W := 0) (rmE0 l Z a0 hw [] b2 T42.heap n0 zl45 Fz43 F44) hZ w_76 w_6 (by decide) (by decide)) q46a q46c (g := (mkF m 229 #[.val (.int xn), .val (.int xk), .val (.int xp), .val (.int xu), .val (.int xv), .val (.int ns), .val (.int (2 : Int32)), .val (.int (2 : Int32)), .val (.int ta1), .val (.int ta2), .val (.int ta3), .val (.int sv1), .val (.int sv2), .val (.int sv3), .val (.ref b2), .val (.int (1 : Int32))] [(.ref b2)])) rfl (by rw [hml]; rfl) (Steps.refl _) (argsL := []) (rest := []) (lenOf pd__28_29Z rfl) rfl (by show 2 * 0 + _ ≤ _; exact Nat.le_of_eq rfl) (hb hby at_229) (fun _ _ => ⟨rfl, rfl, (by decide : 37 + 0 ≤ _), (by decide : 286 + 0 ≤ _)⟩)
      dsimp only [Pt.U, Pt.locs, Pt.cells, Pt.slots] at X46 l46 y46 z46 st46 hQ46
      rw [l46, y46, z46] at X46
      obtain ⟨rfl, Nq46, e46⟩ := hQ46
      have N46 := Fr.app N42 Nq46
      refine own_goT st46 ?_
      refine own_go (fun _ => XS.iload X46.here hx rfl (hb hby at_232) rfl) ?_
      refine own_go (fun _ => XS.iload X46.here hx rfl (hb hby at_234) rfl) ?_
      refine own_go (fun _ => XS.isub X46.here hx rfl (hb hby at_236) rfl) ?_
      show ∃ t o, Steps p.tables e below (T46.setTop (mkF m 237 #[.val (.int xn), .val (.int xk), .val (.int xp), .val (.int xu), .val (.int xv), .val (.int ns), .val (.int (2 : Int32)), .val (.int (2 : Int32)), .val (.int ta1), .val (.int ta2), .val (.int ta3), .val (.int sv1), .val (.int sv2), .val (.int sv3), .val (.ref b2), .val (.int (1 : Int32))] [(.int (0 : Int32)), (.int (1 : Int32))])) t ∧ _
      refine own_go (fun _ => XS.ifNo X46.here hx rfl (hb hby at_237) rfl ((if0 _ _).trans (teq (by decide : (0 : Int32) = (0 : Int32))).2)) ?_
      refine own_go (fun _ => XS.iconst X46.here hx rfl (hb hby at_240)) ?_
      refine own_go (fun _ => XS.goto X46.here hx rfl (pc0 := 241) (pc' := 245) rfl (hb hby at_241) (by decide) (by decide)) ?_
      show ∃ t o, Steps p.tables e below (T46.setTop (mkF m 245 #[.val (.int xn), .val (.int xk), .val (.int xp), .val (.int xu), .val (.int xv), .val (.int ns), .val (.int (2 : Int32)), .val (.int (2 : Int32)), .val (.int ta1), .val (.int ta2), .val (.int ta3), .val (.int sv1), .val (.int sv2), .val (.int sv3), .val (.ref b2), .val (.int (1 : Int32))] [(.int (1 : Int32)), (.int (1 : Int32))])) t ∧ _
      refine own_go (fun _ => XS.icmpNo X46.here hx rfl (hb hby at_245) rfl (teq (by decide : (1 : Int32) = (1 : Int32))).2) ?_
      refine own_go (fun _ => XS.iconst X46.here hx rfl (hb hby at_248)) ?_
      refine own_go (fun _ => XS.goto X46.here hx rfl (pc0 := 249) (pc' := 253) rfl (hb hby at_249) (by decide) (by decide)) ?_
      refine own_go (fun _ => XS.istore X46.here hx rfl (hb hby at_253) rfl (l' := #[.val (.int xn), .val (.int xk), .val (.int xp), .val (.int xu), .val (.int xv), .val (.int ns), .val (.int (2 : Int32)), .val (.int (2 : Int32)), .val (.int ta1), .val (.int ta2), .val (.int ta3), .val (.int sv1), .val (.int sv2), .val (.int sv3), .val (.ref b2), .val (.int (1 : Int32))]) rfl) ?_
      refine own_go (fun _ => XS.iload X46.here hx rfl (hb hby at_255) rfl) ?_
      show ∃ t o, Steps p.tables e below (T46.setTop (mkF m 257 #[.val (.int xn), .val (.int xk), .val (.int xp), .val (.int xu), .val (.int xv), .val (.int ns), .val (.int (2 : Int32)), .val (.int (2 : Int32)), .val (.int ta1), .val (.int ta2), .val (.int ta3), .val (.int sv1), .val (.int sv2), .val (.int sv3), .val (.ref b2), .val (.int (1 : Int32))] [(.int (1 : Int32))])) t ∧ _
      obtain ⟨fs, hr, hrun, hended, hW, hsame⟩ := X46.leave (v := some (.int (1 : Int32))) (fun h => by rw [Bd.returns] at h; cases h)
      refine ⟨_, _, ?_, hrun, hended, _, _, rfl, ?_, ⟨_, rfl⟩, hW, hsame.mono (by decide) (by decide)⟩
      · exact retN X46 hx (t := .boolean) Bd.returns (by simp) (hb hby at_257) hr
      · show Q_rm0 Z _ _ _ _ _ h0 n0 _ T46.heap _
        rw [e46]
        exact ⟨rfl, N46, K42⟩
  · show ∃ t o, Steps p.tables e below (T9.setTop (mkF m 108 #[.val (.int xn), .val (.int xk), .val (.int xp), .val (.int xu), .val (.int xv), .val (.int ns), .val (.int (3 : Int32)), .val (.int r1_1), .val (.int ta1), .val (.int ta2), .val (.int ta3), .val (.int sv1), .val (.int sv2), .val (.int sv3), .val (.ref b2), .val (.int (1 : Int32))] [(.int (1 : Int32)), (.int (3 : Int32))])) t ∧ _
    show ∃ t o, Steps p.tables e below (T9.setTop (mkF m 108 #[.val (.int xn), .val (.int xk), .val (.int xp), .val (.int xu), .val (.int xv), .val (.int ns), .val (.int (3 : Int32)), .val (.int r1_1), .val (.int ta1), .val (.int ta2), .val (.int ta3), .val (.int sv1), .val (.int sv2), .val (.int sv3), .val (.ref b2), .val (.int (1 : Int32))] [(.int (1 : Int32)), (.int (3 : Int32))])) t ∧ _
    refine own_go (fun _ => XS.icmpNo X9.here hx rfl (hb hby at_108) rfl (flt (by decide : ¬ ((3 : Int32) < (1 : Int32)))).1) ?_
    refine own_go (fun _ => XS.aload X9.here hx rfl (hb hby at_111) rfl rfl) ?_
    refine own_go (fun _ => XS.iload X9.here hx rfl (hb hby at_113) rfl) ?_
    refine own_go (fun _ => XS.iload X9.here hx rfl (hb hby at_115) rfl) ?_
    refine own_go (fun _ => XS.i2dS X9.here hx rfl (hb hby at_117) rfl rfl) ?_
    refine own_go (fun _ => XS.aconstNull X9.here hx rfl (hb hby at_118)) ?_
    show ∃ t o, Steps p.tables e below (T9.setTop (mkF m 119 #[.val (.int xn), .val (.int xk), .val (.int xp), .val (.int xu), .val (.int xv), .val (.int ns), .val (.int (3 : Int32)), .val (.int r1_1), .val (.int ta1), .val (.int ta2), .val (.int ta3), .val (.int sv1), .val (.int sv2), .val (.int sv3), .val (.ref b2), .val (.int (1 : Int32))] [.null, (.double (FP.i2d ta1)), (.int sv1), (.ref b2)])) t ∧ _
    obtain ⟨cq47, kq47, q47a, q47b, q47c⟩ := isOf hZ e9 G6_0
    obtain ⟨_, _, ⟨T47, L47, k47, n47⟩, -, X47, ⟨Lc47, hQ47, l47, y47, z47⟩, st47⟩ := X9.virtualBack hx (y := (⟨"com/example/holdback/holdback/sim/EventQueue", "add", "(IDLjava/lang/Runnable;)V"⟩ : MethodName)) (z := (⟨"com/example/holdback/holdback/sim/EventQueue", "add", "(IDLjava/lang/Runnable;)V"⟩ : MethodName)) hown (mvT hZ w_79) (mvT hZ w_80) (notFace_of_selects (args := #[]) (mvT hZ w_82)) (mvT hZ w_82) (mvT hZ w_81) (by decide) (backOf (W := 0) (rmAdd l Z a0 hw [] b2 fa_6 fp_6 wi_6 kf_6 kp_6 kw_6 ds_6 ls_6 wl_6 zN_6 z2_6 ss_6 ks_6 vs_6 ff_6 (0 : Int) (0 : Int) sv1 (FP.i2d ta1) ta1 (0 : Int32) (0 : Int64) T6.heap n0 zl8 G6_0 G6_1 G6_2 G6_3 G6_4 G6_5 G6_6 G6_7 G6_8 G6_9 G6_10 G6_11 F7 H6_0 H6_1 H6_2 H6_3 H6_4 H6_5 H6_6 H6_7 H6_8 H6_9 ge4 (by omega) (by rw [e_sv1]; exact own_rem _ (own_m7 _) h18 H6_10) (by rfl) (by omega)) hZ w_83 w_6 (by decide) (by decide)) q47a q47c (g := (mkF m 119 #[.val (.int xn), .val (.int xk), .val (.int xp), .val (.int xu), .val (.int xv), .val (.int ns), .val (.int (3 : Int32)), .val (.int r1_1), .val (.int ta1), .val (.int ta2), .val (.int ta3), .val (.int sv1), .val (.int sv2), .val (.int sv3), .val (.ref b2), .val (.int (1 : Int32))] [.null, (.double (FP.i2d ta1)), (.int sv1), (.ref b2)])) rfl (by rw [hml]; rfl) (Steps.refl _) (argsL := [(.int sv1), (.double (FP.i2d ta1)), .null]) (rest := []) (lenOf pd__28IDLjava_2flang_2fRunnable_3b_29V rfl) rfl (by show 2 * 0 + _ ≤ _; exact Nat.le_of_eq rfl) (hb hby at_119) (fun _ _ => ⟨rfl, e9, (by decide : 37 + 0 ≤ _), (by decide : 286 + 0 ≤ _)⟩)
    dsimp only [Pt.U, Pt.locs, Pt.cells, Pt.slots] at X47 l47 y47 z47 st47 hQ47
    rw [l47, y47, z47] at X47
    obtain ⟨ds2_47, ls2_47, wl2_47, rfl, Nq47, Kp47, G47_0, G47_1, G47_2, G47_3, G47_4, G47_5, G47_6, G47_7, G47_8, G47_9, G47_10, G47_11, H47_0, H47_1, H47_2⟩ := hQ47
    have N47 := Fr.app N9 Nq47
    refine own_goT st47 ?_
    have le_47 : T6.heap.size ≤ T47.heap.size := Kp47.1
    have K47 : Keep h0 T47.heap (own_up n0 h0) := Keep.trans K6 Kp47 (fun x hx => own_up_or (own_up_ge hx))
    have Fz48 : Fld Z T47.heap b2 "com/example/holdback/holdback/sim/EventQueue" "size" "I" (.int (1 : Int32)) := G47_10
    refine own_go (fun _ => XS.iload X47.here hx rfl (hb hby at_122) rfl) ?_
    refine own_go (fun _ => XS.iconst X47.here hx rfl (hb hby at_124)) ?_
    show ∃ t o, Steps p.tables e below (T47.setTop (mkF m 125 #[.val (.int xn), .val (.int xk), .val (.int xp), .val (.int xu), .val (.int xv), .val (.int ns), .val (.int (3 : Int32)), .val (.int r1_1), .val (.int ta1), .val (.int ta2), .val (.int ta3), .val (.int sv1), .val (.int sv2), .val (.int sv3), .val (.ref b2), .val (.int (1 : Int32))] [(.int (2 : Int32)), (.int (3 : Int32))])) t ∧ _
    refine own_go (fun _ => XS.icmpNo X47.here hx rfl (hb hby at_125) rfl (flt (by decide : ¬ ((3 : Int32) < (2 : Int32)))).1) ?_
    refine own_go (fun _ => XS.aload X47.here hx rfl (hb hby at_128) rfl rfl) ?_
    refine own_go (fun _ => XS.iload X47.here hx rfl (hb hby at_130) rfl) ?_
    refine own_go (fun _ => XS.iload X47.here hx rfl (hb hby at_132) rfl) ?_
    refine own_go (fun _ => XS.i2dS X47.here hx rfl (hb hby at_134) rfl rfl) ?_
    refine own_go (fun _ => XS.aconstNull X47.here hx rfl (hb hby at_135)) ?_
    show ∃ t o, Steps p.tables e below (T47.setTop (mkF m 136 #[.val (.int xn), .val (.int xk), .val (.int xp), .val (.int xu), .val (.int xv), .val (.int ns), .val (.int (3 : Int32)), .val (.int r1_1), .val (.int ta1), .val (.int ta2), .val (.int ta3), .val (.int sv1), .val (.int sv2), .val (.int sv3), .val (.ref b2), .val (.int (1 : Int32))] [.null, (.double (FP.i2d ta2)), (.int sv2), (.ref b2)])) t ∧ _
    have F49 := (Old.keep F7 Kp47 (fun x hx => own_up_ge hx))
    have zl50 : n0 ≤ T47.heap.size := by omega
    obtain ⟨cq51, kq51, q51a, q51b, q51c⟩ := isOf hZ rfl G47_0
    obtain ⟨_, _, ⟨T51, L51, k51, n51⟩, -, X51, ⟨Lc51, hQ51, l51, y51, z51⟩, st51⟩ := X47.virtualBack hx (y := (⟨"com/example/holdback/holdback/sim/EventQueue", "add", "(IDLjava/lang/Runnable;)V"⟩ : MethodName)) (z := (⟨"com/example/holdback/holdback/sim/EventQueue", "add", "(IDLjava/lang/Runnable;)V"⟩ : MethodName)) hown (mvT hZ w_79) (mvT hZ w_80) (notFace_of_selects (args := #[]) (mvT hZ w_82)) (mvT hZ w_82) (mvT hZ w_81) (by decide) (backOf (W := 0) (rmAdd l Z a0 hw [] b2 fa_6 fp_6 wi_6 kf_6 kp_6 kw_6 ds2_47 ls2_47 wl2_47 zN_6 z2_6 ss_6 ks_6 vs_6 ff_6 (ta1.toInt) (((0 : Int) + 1)) sv2 (FP.i2d ta2) ta2 (1 : Int32) (((0 : Int64) + (1 : Int64))) T47.heap n0 zl50 G47_0 G47_1 G47_2 G47_3 G47_4 G47_5 G47_6 G47_7 G47_8 G47_9 Fz48 G47_11 F49 H47_0 H47_1 H47_2 H6_3 H6_4 H6_5 H6_6 H6_7 H6_8 H6_9 ge4 (by omega) (by rw [e_sv2]; exact own_rem _ (own_m7 _) h18 H6_10) (by rfl) (by omega)) hZ w_83 w_6 (by decide) (by decide)) q51a q51c (g := (mkF m 136 #[.val (.int xn), .val (.int xk), .val (.int xp), .val (.int xu), .val (.int xv), .val (.int ns), .val (.int (3 : Int32)), .val (.int r1_1), .val (.int ta1), .val (.int ta2), .val (.int ta3), .val (.int sv1), .val (.int sv2), .val (.int sv3), .val (.ref b2), .val (.int (1 : Int32))] [.null, (.double (FP.i2d ta2)), (.int sv2), (.ref b2)])) rfl (by rw [hml]; rfl) (Steps.refl _) (argsL := [(.int sv2), (.double (FP.i2d ta2)), .null]) (rest := []) (lenOf pd__28IDLjava_2flang_2fRunnable_3b_29V rfl) rfl (by show 2 * 0 + _ ≤ _; exact Nat.le_of_eq rfl) (hb hby at_136) (fun _ _ => ⟨rfl, rfl, (by decide : 37 + 0 ≤ _), (by decide : 286 + 0 ≤ _)⟩)
    dsimp only [Pt.U, Pt.locs, Pt.cells, Pt.slots] at X51 l51 y51 z51 st51 hQ51
    rw [l51, y51, z51] at X51
    obtain ⟨ds2_51, ls2_51, wl2_51, rfl, Nq51, Kp51, G51_0, G51_1, G51_2, G51_3, G51_4, G51_5, G51_6, G51_7, G51_8, G51_9, G51_10, G51_11, H51_0, H51_1, H51_2⟩ := hQ51
    have N51 := Fr.app N47 Nq51
    refine own_goT st51 ?_
    have le_51 : T47.heap.size ≤ T51.heap.size := Kp51.1
    have K51 : Keep h0 T51.heap (own_up n0 h0) := Keep.trans K47 Kp51 (fun x hx => own_up_or (own_up_ge hx))
    have Fz52 : Fld Z T51.heap b2 "com/example/holdback/holdback/sim/EventQueue" "size" "I" (.int (2 : Int32)) := G51_10
    refine own_go (fun _ => XS.iload X51.here hx rfl (hb hby at_139) rfl) ?_
    refine own_go (fun _ => XS.iconst X51.here hx rfl (hb hby at_141)) ?_
    show ∃ t o, Steps p.tables e below (T51.setTop (mkF m 142 #[.val (.int xn), .val (.int xk), .val (.int xp), .val (.int xu), .val (.int xv), .val (.int ns), .val (.int (3 : Int32)), .val (.int r1_1), .val (.int ta1), .val (.int ta2), .val (.int ta3), .val (.int sv1), .val (.int sv2), .val (.int sv3), .val (.ref b2), .val (.int (1 : Int32))] [(.int (3 : Int32)), (.int (3 : Int32))])) t ∧ _
    refine own_go (fun _ => XS.icmpNo X51.here hx rfl (hb hby at_142) rfl (flt (by decide : ¬ ((3 : Int32) < (3 : Int32)))).1) ?_
    refine own_go (fun _ => XS.aload X51.here hx rfl (hb hby at_145) rfl rfl) ?_
    refine own_go (fun _ => XS.iload X51.here hx rfl (hb hby at_147) rfl) ?_
    refine own_go (fun _ => XS.iload X51.here hx rfl (hb hby at_149) rfl) ?_
    refine own_go (fun _ => XS.i2dS X51.here hx rfl (hb hby at_151) rfl rfl) ?_
    refine own_go (fun _ => XS.aconstNull X51.here hx rfl (hb hby at_152)) ?_
    show ∃ t o, Steps p.tables e below (T51.setTop (mkF m 153 #[.val (.int xn), .val (.int xk), .val (.int xp), .val (.int xu), .val (.int xv), .val (.int ns), .val (.int (3 : Int32)), .val (.int r1_1), .val (.int ta1), .val (.int ta2), .val (.int ta3), .val (.int sv1), .val (.int sv2), .val (.int sv3), .val (.ref b2), .val (.int (1 : Int32))] [.null, (.double (FP.i2d ta3)), (.int sv3), (.ref b2)])) t ∧ _
    have F53 := (Old.keep F49 Kp51 (fun x hx => own_up_ge hx))
    have zl54 : n0 ≤ T51.heap.size := by omega
    obtain ⟨cq55, kq55, q55a, q55b, q55c⟩ := isOf hZ rfl G51_0
    obtain ⟨_, _, ⟨T55, L55, k55, n55⟩, -, X55, ⟨Lc55, hQ55, l55, y55, z55⟩, st55⟩ := X51.virtualBack hx (y := (⟨"com/example/holdback/holdback/sim/EventQueue", "add", "(IDLjava/lang/Runnable;)V"⟩ : MethodName)) (z := (⟨"com/example/holdback/holdback/sim/EventQueue", "add", "(IDLjava/lang/Runnable;)V"⟩ : MethodName)) hown (mvT hZ w_79) (mvT hZ w_80) (notFace_of_selects (args := #[]) (mvT hZ w_82)) (mvT hZ w_82) (mvT hZ w_81) (by decide) (backOf (W := 0) (rmAdd l Z a0 hw [] b2 fa_6 fp_6 wi_6 kf_6 kp_6 kw_6 ds2_51 ls2_51 wl2_51 zN_6 z2_6 ss_6 ks_6 vs_6 ff_6 (ta2.toInt) ((((0 : Int) + 1) + 1)) sv3 (FP.i2d ta3) ta3 (2 : Int32) ((((0 : Int64) + (1 : Int64)) + (1 : Int64))) T51.heap n0 zl54 G51_0 G51_1 G51_2 G51_3 G51_4 G51_5 G51_6 G51_7 G51_8 G51_9 Fz52 G51_11 F53 H51_0 H51_1 H51_2 H6_3 H6_4 H6_5 H6_6 H6_7 H6_8 H6_9 ge4 (by omega) (by rw [e_sv3]; exact own_rem _ (own_m7 _) h18 H6_10) (by rfl) (by omega)) hZ w_83 w_6 (by decide) (by decide)) q55a q55c (g := (mkF m 153 #[.val (.int xn), .val (.int xk), .val (.int xp), .val (.int xu), .val (.int xv), .val (.int ns), .val (.int (3 : Int32)), .val (.int r1_1), .val (.int ta1), .val (.int ta2), .val (.int ta3), .val (.int sv1), .val (.int sv2), .val (.int sv3), .val (.ref b2), .val (.int (1 : Int32))] [.null, (.double (FP.i2d ta3)), (.int sv3), (.ref b2)])) rfl (by rw [hml]; rfl) (Steps.refl _) (argsL := [(.int sv3), (.double (FP.i2d ta3)), .null]) (rest := []) (lenOf pd__28IDLjava_2flang_2fRunnable_3b_29V rfl) rfl (by show 2 * 0 + _ ≤ _; exact Nat.le_of_eq rfl) (hb hby at_153) (fun _ _ => ⟨rfl, rfl, (by decide : 37 + 0 ≤ _), (by decide : 286 + 0 ≤ _)⟩)
    dsimp only [Pt.U, Pt.locs, Pt.cells, Pt.slots] at X55 l55 y55 z55 st55 hQ55
    rw [l55, y55, z55] at X55
    obtain ⟨ds2_55, ls2_55, wl2_55, rfl, Nq55, Kp55, G55_0, G55_1, G55_2, G55_3, G55_4, G55_5, G55_6, G55_7, G55_8, G55_9, G55_10, G55_11, H55_0, H55_1, H55_2⟩ := hQ55
    have N55 := Fr.app N51 Nq55
    refine own_goT st55 ?_
    have le_55 : T51.heap.size ≤ T55.heap.size := Kp55.1
    have K55 : Keep h0 T55.heap (own_up n0 h0) := Keep.trans K51 Kp55 (fun x hx => own_up_or (own_up_ge hx))
    have Fz56 : Fld Z T55.heap b2 "com/example/holdback/holdback/sim/EventQueue" "size" "I" (.int (3 : Int32)) := G55_10
    refine own_go (fun _ => XS.iload X55.here hx rfl (hb hby at_156) rfl) ?_
    show ∃ t o, Steps p.tables e below (T55.setTop (mkF m 158 #[.val (.int xn), .val (.int xk), .val (.int xp), .val (.int xu), .val (.int xv), .val (.int ns), .val (.int (3 : Int32)), .val (.int r1_1), .val (.int ta1), .val (.int ta2), .val (.int ta3), .val (.int sv1), .val (.int sv2), .val (.int sv3), .val (.ref b2), .val (.int (1 : Int32))] [(.int (1 : Int32))])) t ∧ _
    refine own_go (fun _ => XS.ifNo X55.here hx rfl (hb hby at_158) rfl ((if0 _ _).trans (feq (by decide : ¬ ((1 : Int32) = (0 : Int32)))).1)) ?_
    refine own_go (fun _ => XS.aload X55.here hx rfl (hb hby at_161) rfl rfl) ?_
    show ∃ t o, Steps p.tables e below (T55.setTop (mkF m 163 #[.val (.int xn), .val (.int xk), .val (.int xp), .val (.int xu), .val (.int xv), .val (.int ns), .val (.int (3 : Int32)), .val (.int r1_1), .val (.int ta1), .val (.int ta2), .val (.int ta3), .val (.int sv1), .val (.int sv2), .val (.int sv3), .val (.ref b2), .val (.int (1 : Int32))] [(.ref b2)])) t ∧ _
    have F57 := (Old.keep F53 Kp55 (fun x hx => own_up_ge hx))
    have zl58 : n0 ≤ T55.heap.size := by omega
    obtain ⟨cq59, kq59, q59a, q59b, q59c⟩ := isOf hZ rfl G55_0
    obtain ⟨_, _, ⟨T59, L59, k59, n59⟩, -, X59, ⟨Lc59, hQ59, l59, y59, z59⟩, st59⟩ := X55.virtualBack hx (y := (⟨"com/example/holdback/holdback/sim/EventQueue", "isEmpty", "()Z"⟩ : MethodName)) (z := (⟨"com/example/holdback/holdback/sim/EventQueue", "isEmpty", "()Z"⟩ : MethodName)) hown (mvT hZ w_72) (mvT hZ w_73) (notFace_of_selects (args := #[]) (mvT hZ w_75)) (mvT hZ w_75) (mvT hZ w_74) (by decide) (backOf (W := 0) (rmE1 l Z a0 hw [] b2 (3 : Int32) T55.heap n0 zl58 Fz56 F57 (by decide)) hZ w_76 w_6 (by decide) (by decide)) q59a q59c (g := (mkF m 163 #[.val (.int xn), .val (.int xk), .val (.int xp), .val (.int xu), .val (.int xv), .val (.int ns), .val (.int (3 : Int32)), .val (.int r1_1), .val (.int ta1), .val (.int ta2), .val (.int ta3), .val (.int sv1), .val (.int sv2), .val (.int sv3), .val (.ref b2), .val (.int (1 : Int32))] [(.ref b2)])) rfl (by rw [hml]; rfl) (Steps.refl _) (argsL := []) (rest := []) (lenOf pd__28_29Z rfl) rfl (by show 2 * 0 + _ ≤ _; exact Nat.le_of_eq rfl) (hb hby at_163) (fun _ _ => ⟨rfl, rfl, (by decide : 37 + 0 ≤ _), (by decide : 286 + 0 ≤ _)⟩)
    dsimp only [Pt.U, Pt.locs, Pt.cells, Pt.slots] at X59 l59 y59 z59 st59 hQ59
    rw [l59, y59, z59] at X59
    obtain ⟨rfl, Nq59, e59⟩ := hQ59
    have N59 := Fr.app N55 Nq59
    refine own_goT st59 ?_
    refine own_go (fun _ => XS.iload X59.here hx rfl (hb hby at_166) rfl) ?_
    show ∃ t o, Steps p.tables e below (T59.setTop (mkF m 168 #[.val (.int xn), .val (.int xk), .val (.int xp), .val (.int xu), .val (.int xv), .val (.int ns), .val (.int (3 : Int32)), .val (.int r1_1), .val (.int ta1), .val (.int ta2), .val (.int ta3), .val (.int sv1), .val (.int sv2), .val (.int sv3), .val (.ref b2), .val (.int (1 : Int32))] [(.int (3 : Int32)), (.int (0 : Int32))])) t ∧ _
    refine own_go (fun _ => XS.ifYes X59.here hx rfl (pc0 := 168) (pc' := 175) rfl (hb hby at_168) rfl ((if0 _ _).trans (feq (by decide : ¬ ((3 : Int32) = (0 : Int32)))).2) (by decide) (by decide)) ?_
    refine own_go (fun _ => XS.iconst X59.here hx rfl (hb hby at_175)) ?_
    show ∃ t o, Steps p.tables e below (T59.setTop (mkF m 176 #[.val (.int xn), .val (.int xk), .val (.int xp), .val (.int xu), .val (.int xv), .val (.int ns), .val (.int (3 : Int32)), .val (.int r1_1), .val (.int ta1), .val (.int ta2), .val (.int ta3), .val (.int sv1), .val (.int sv2), .val (.int sv3), .val (.ref b2), .val (.int (1 : Int32))] [(.int (0 : Int32)), (.int (0 : Int32))])) t ∧ _
    refine own_go (fun _ => XS.icmpNo X59.here hx rfl (hb hby at_176) rfl (teq (by decide : (0 : Int32) = (0 : Int32))).2) ?_
    refine own_go (fun _ => XS.iconst X59.here hx rfl (hb hby at_179)) ?_
    refine own_go (fun _ => XS.goto X59.here hx rfl (pc0 := 180) (pc' := 184) rfl (hb hby at_180) (by decide) (by decide)) ?_
    refine own_go (fun _ => XS.istore X59.here hx rfl (hb hby at_184) rfl (l' := #[.val (.int xn), .val (.int xk), .val (.int xp), .val (.int xu), .val (.int xv), .val (.int ns), .val (.int (3 : Int32)), .val (.int r1_1), .val (.int ta1), .val (.int ta2), .val (.int ta3), .val (.int sv1), .val (.int sv2), .val (.int sv3), .val (.ref b2), .val (.int (1 : Int32))]) rfl) ?_
    refine own_go (fun _ => XS.iload X59.here hx rfl (hb hby at_186) rfl) ?_
    refine own_go (fun _ => XS.iconst X59.here hx rfl (hb hby at_188)) ?_
    show ∃ t o, Steps p.tables e below (T59.setTop (mkF m 189 #[.val (.int xn), .val (.int xk), .val (.int xp), .val (.int xu), .val (.int xv), .val (.int ns), .val (.int (3 : Int32)), .val (.int r1_1), .val (.int ta1), .val (.int ta2), .val (.int ta3), .val (.int sv1), .val (.int sv2), .val (.int sv3), .val (.ref b2), .val (.int (1 : Int32))] [(.int (1 : Int32)), (.int r1_1)])) t ∧ _
    have hj : r1_1 = (0 : Int32) ∨ r1_1 = (1 : Int32) ∨ r1_1 = (2 : Int32) ∨ r1_1 = (3 : Int32) := by rw [H1_0]; rcases own_and3 xp with q | q | q | q <;> rw [q] <;> decide
    rcases hj with hj | hj | hj | hj
    · rw [hj]
      show ∃ t o, Steps p.tables e below (T59.setTop (mkF m 189 #[.val (.int xn), .val (.int xk), .val (.int xp), .val (.int xu), .val (.int xv), .val (.int ns), .val (.int (3 : Int32)), .val (.int (0 : Int32)), .val (.int ta1), .val (.int ta2), .val (.int ta3), .val (.int sv1), .val (.int sv2), .val (.int sv3), .val (.ref b2), .val (.int (1 : Int32))] [(.int (1 : Int32)), (.int (0 : Int32))])) t ∧ _
      refine own_go (fun _ => XS.icmpYes X59.here hx rfl (pc0 := 189) (pc' := 198) rfl (hb hby at_189) rfl (tlt (by decide : (0 : Int32) < (1 : Int32))).1 (by decide) (by decide)) ?_
      refine own_go (fun _ => XS.iload X59.here hx rfl (hb hby at_198) rfl) ?_
      refine own_go (fun _ => XS.iconst X59.here hx rfl (hb hby at_200)) ?_
      show ∃ t o, Steps p.tables e below (T59.setTop (mkF m 201 #[.val (.int xn), .val (.int xk), .val (.int xp), .val (.int xu), .val (.int xv), .val (.int ns), .val (.int (3 : Int32)), .val (.int (0 : Int32)), .val (.int ta1), .val (.int ta2), .val (.int ta3), .val (.int sv1), .val (.int sv2), .val (.int sv3), .val (.ref b2), .val (.int (1 : Int32))] [(.int (2 : Int32)), (.int (0 : Int32))])) t ∧ _
      refine own_go (fun _ => XS.icmpYes X59.here hx rfl (pc0 := 201) (pc' := 210) rfl (hb hby at_201) rfl (tlt (by decide : (0 : Int32) < (2 : Int32))).1 (by decide) (by decide)) ?_
      refine own_go (fun _ => XS.iload X59.here hx rfl (hb hby at_210) rfl) ?_
      refine own_go (fun _ => XS.iconst X59.here hx rfl (hb hby at_212)) ?_
      show ∃ t o, Steps p.tables e below (T59.setTop (mkF m 213 #[.val (.int xn), .val (.int xk), .val (.int xp), .val (.int xu), .val (.int xv), .val (.int ns), .val (.int (3 : Int32)), .val (.int (0 : Int32)), .val (.int ta1), .val (.int ta2), .val (.int ta3), .val (.int sv1), .val (.int sv2), .val (.int sv3), .val (.ref b2), .val (.int (1 : Int32))] [(.int (3 : Int32)), (.int (0 : Int32))])) t ∧ _
      refine own_go (fun _ => XS.icmpYes X59.here hx rfl (pc0 := 213) (pc' := 222) rfl (hb hby at_213) rfl (tlt (by decide : (0 : Int32) < (3 : Int32))).1 (by decide) (by decide)) ?_
      refine own_go (fun _ => XS.iload X59.here hx rfl (hb hby at_222) rfl) ?_
      show ∃ t o, Steps p.tables e below (T59.setTop (mkF m 224 #[.val (.int xn), .val (.int xk), .val (.int xp), .val (.int xu), .val (.int xv), .val (.int ns), .val (.int (3 : Int32)), .val (.int (0 : Int32)), .val (.int ta1), .val (.int ta2), .val (.int ta3), .val (.int sv1), .val (.int sv2), .val (.int sv3), .val (.ref b2), .val (.int (1 : Int32))] [(.int (1 : Int32))])) t ∧ _
      refine own_go (fun _ => XS.ifNo X59.here hx rfl (hb hby at_224) rfl ((if0 _ _).trans (feq (by decide : ¬ ((1 : Int32) = (0 : Int32)))).1)) ?_
      refine own_go (fun _ => XS.aload X59.here hx rfl (hb hby at_227) rfl rfl) ?_
      show ∃ t o, Steps p.tables e below (T59.setTop (mkF m 229 #[.val (.int xn), .val (.int xk), .val (.int xp), .val (.int xu), .val (.int xv), .val (.int ns), .val (.int (3 : Int32)), .val (.int (0 : Int32)), .val (.int ta1), .val (.int ta2), .val (.int ta3), .val (.int sv1), .val (.int sv2), .val (.int sv3), .val (.ref b2), .val (.int (1 : Int32))] [(.ref b2)])) t ∧ _
      obtain ⟨cq60, kq60, q60a, q60b, q60c⟩ := isOf hZ e59 G55_0
      obtain ⟨_, _, ⟨T60, L60, k60, n60⟩, -, X60, ⟨Lc60, hQ60, l60, y60, z60⟩, st60⟩ := X59.virtualBack hx (y := (⟨"com/example/holdback/holdback/sim/EventQueue", "isEmpty", "()Z"⟩ : MethodName)) (z := (⟨"com/example/holdback/holdback/sim/EventQueue", "isEmpty", "()Z"⟩ : MethodName)) hown (mvT hZ w_72) (mvT hZ w_73) (notFace_of_selects (args := #[]) (mvT hZ w_75)) (mvT hZ w_75) (mvT hZ w_74) (by decide) (backOf (W := 0) (rmE1 l Z a0 hw [] b2 (3 : Int32) T55.heap n0 zl58 Fz56 F57 (by decide)) hZ w_76 w_6 (by decide) (by decide)) q60a q60c (g := (mkF m 229 #[.val (.int xn), .val (.int xk), .val (.int xp), .val (.int xu), .val (.int xv), .val (.int ns), .val (.int (3 : Int32)), .val (.int (0 : Int32)), .val (.int ta1), .val (.int ta2), .val (.int ta3), .val (.int sv1), .val (.int sv2), .val (.int sv3), .val (.ref b2), .val (.int (1 : Int32))] [(.ref b2)])) rfl (by rw [hml]; rfl) (Steps.refl _) (argsL := []) (rest := []) (lenOf pd__28_29Z rfl) rfl (by show 2 * 0 + _ ≤ _; exact Nat.le_of_eq rfl) (hb hby at_229) (fun _ _ => ⟨rfl, e59, (by decide : 37 + 0 ≤ _), (by decide : 286 + 0 ≤ _)⟩)
      dsimp only [Pt.U, Pt.locs, Pt.cells, Pt.slots] at X60 l60 y60 z60 st60 hQ60
      rw [l60, y60, z60] at X60
      obtain ⟨rfl, Nq60, e60⟩ := hQ60
      have N60 := Fr.app N59 Nq60
      refine own_goT st60 ?_
      refine own_go (fun _ => XS.iload X60.here hx rfl (hb hby at_232) rfl) ?_
      refine own_go (fun _ => XS.iload X60.here hx rfl (hb hby at_234) rfl) ?_
      refine own_go (fun _ => XS.isub X60.here hx rfl (hb hby at_236) rfl) ?_
      show ∃ t o, Steps p.tables e below (T60.setTop (mkF m 237 #[.val (.int xn), .val (.int xk), .val (.int xp), .val (.int xu), .val (.int xv), .val (.int ns), .val (.int (3 : Int32)), .val (.int (0 : Int32)), .val (.int ta1), .val (.int ta2), .val (.int ta3), .val (.int sv1), .val (.int sv2), .val (.int sv3), .val (.ref b2), .val (.int (1 : Int32))] [(.int (3 : Int32)), (.int (0 : Int32))])) t ∧ _
      refine own_go (fun _ => XS.ifYes X60.here hx rfl (pc0 := 237) (pc' := 244) rfl (hb hby at_237) rfl ((if0 _ _).trans (feq (by decide : ¬ ((3 : Int32) = (0 : Int32)))).2) (by decide) (by decide)) ?_
      refine own_go (fun _ => XS.iconst X60.here hx rfl (hb hby at_244)) ?_
      show ∃ t o, Steps p.tables e below (T60.setTop (mkF m 245 #[.val (.int xn), .val (.int xk), .val (.int xp), .val (.int xu), .val (.int xv), .val (.int ns), .val (.int (3 : Int32)), .val (.int (0 : Int32)), .val (.int ta1), .val (.int ta2), .val (.int ta3), .val (.int sv1), .val (.int sv2), .val (.int sv3), .val (.ref b2), .val (.int (1 : Int32))] [(.int (0 : Int32)), (.int (0 : Int32))])) t ∧ _
      refine own_go (fun _ => XS.icmpNo X60.here hx rfl (hb hby at_245) rfl (teq (by decide : (0 : Int32) = (0 : Int32))).2) ?_
      refine own_go (fun _ => XS.iconst X60.here hx rfl (hb hby at_248)) ?_
      refine own_go (fun _ => XS.goto X60.here hx rfl (pc0 := 249) (pc' := 253) rfl (hb hby at_249) (by decide) (by decide)) ?_
      refine own_go (fun _ => XS.istore X60.here hx rfl (hb hby at_253) rfl (l' := #[.val (.int xn), .val (.int xk), .val (.int xp), .val (.int xu), .val (.int xv), .val (.int ns), .val (.int (3 : Int32)), .val (.int (0 : Int32)), .val (.int ta1), .val (.int ta2), .val (.int ta3), .val (.int sv1), .val (.int sv2), .val (.int sv3), .val (.ref b2), .val (.int (1 : Int32))]) rfl) ?_
      refine own_go (fun _ => XS.iload X60.here hx rfl (hb hby at_255) rfl) ?_
      show ∃ t o, Steps p.tables e below (T60.setTop (mkF m 257 #[.val (.int xn), .val (.int xk), .val (.int xp), .val (.int xu), .val (.int xv), .val (.int ns), .val (.int (3 : Int32)), .val (.int (0 : Int32)), .val (.int ta1), .val (.int ta2), .val (.int ta3), .val (.int sv1), .val (.int sv2), .val (.int sv3), .val (.ref b2), .val (.int (1 : Int32))] [(.int (1 : Int32))])) t ∧ _
      obtain ⟨fs, hr, hrun, hended, hW, hsame⟩ := X60.leave (v := some (.int (1 : Int32))) (fun h => by rw [Bd.returns] at h; cases h)
      refine ⟨_, _, ?_, hrun, hended, _, _, rfl, ?_, ⟨_, rfl⟩, hW, hsame.mono (by decide) (by decide)⟩
      · exact retN X60 hx (t := .boolean) Bd.returns (by simp) (hb hby at_257) hr
      · show Q_rm0 Z _ _ _ _ _ h0 n0 _ T60.heap _
        rw [e60]
        exact ⟨rfl, N60, K55⟩
    · rw [hj]
      show ∃ t o, Steps p.tables e below (T59.setTop (mkF m 189 #[.val (.int xn), .val (.int xk), .val (.int xp), .val (.int xu), .val (.int xv), .val (.int ns), .val (.int (3 : Int32)), .val (.int (1 : Int32)), .val (.int ta1), .val (.int ta2), .val (.int ta3), .val (.int sv1), .val (.int sv2), .val (.int sv3), .val (.ref b2), .val (.int (1 : Int32))] [(.int (1 : Int32)), (.int (1 : Int32))])) t ∧ _
      refine own_go (fun _ => XS.icmpNo X59.here hx rfl (hb hby at_189) rfl (flt (by decide : ¬ ((1 : Int32) < (1 : Int32)))).1) ?_
      refine own_go (fun _ => XS.aload X59.here hx rfl (hb hby at_192) rfl rfl) ?_
      show ∃ t o, Steps p.tables e below (T59.setTop (mkF m 194 #[.val (.int xn), .val (.int xk), .val (.int xp), .val (.int xu), .val (.int xv), .val (.int ns), .val (.int (3 : Int32)), .val (.int (1 : Int32)), .val (.int ta1), .val (.int ta2), .val (.int ta3), .val (.int sv1), .val (.int sv2), .val (.int sv3), .val (.ref b2), .val (.int (1 : Int32))] [(.ref b2)])) t ∧ _
      obtain ⟨cq61, kq61, q61a, q61b, q61c⟩ := isOf hZ e59 G55_0
      obtain ⟨_, _, ⟨T61, L61, k61, n61⟩, -, X61, ⟨Lc61, hQ61, l61, y61, z61⟩, st61⟩ := X59.virtualBack hx (y := (⟨"com/example/holdback/holdback/sim/EventQueue", "poll", "()Ljava/lang/Runnable;"⟩ : MethodName)) (z := (⟨"com/example/holdback/holdback/sim/EventQueue", "poll", "()Ljava/lang/Runnable;"⟩ : MethodName)) hown (mvT hZ w_106) (mvT hZ w_107) (notFace_of_selects (args := #[]) (mvT hZ w_109)) (mvT hZ w_109) (mvT hZ w_108) (by decide) (backOf (W := 0) (rmPoll l Z a0 hw [] b2 fa_6 fp_6 wi_6 kf_6 kp_6 kw_6 ds2_55 ls2_55 wl2_55 zN_6 z2_6 ss_6 ks_6 vs_6 ff_6 (ta3.toInt) (((((0 : Int) + 1) + 1) + 1)) (3 : Int32) (((((0 : Int64) + (1 : Int64)) + (1 : Int64)) + (1 : Int64))) T55.heap n0 zl58 G55_0 G55_1 G55_2 G55_3 G55_4 G55_5 G55_6 G55_7 G55_8 G55_9 Fz56 G55_11 F57 H55_0 H55_1 H55_2 H6_3 H6_4 H6_5 H6_6 H6_7 H6_8 H6_9 ge4 (by omega) (by decide)) hZ w_110 w_6 (by decide) (by decide)) q61a q61c (g := (mkF m 194 #[.val (.int xn), .val (.int xk), .val (.int xp), .val (.int xu), .val (.int xv), .val (.int ns), .val (.int (3 : Int32)), .val (.int (1 : Int32)), .val (.int ta1), .val (.int ta2), .val (.int ta3), .val (.int sv1), .val (.int sv2), .val (.int sv3), .val (.ref b2), .val (.int (1 : Int32))] [(.ref b2)])) rfl (by rw [hml]; rfl) (Steps.refl _) (argsL := []) (rest := []) (lenOf pd__28_29Ljava_2flang_2fRunnable_3b rfl) rfl (by show 2 * 0 + _ ≤ _; exact Nat.le_of_eq rfl) (hb hby at_194) (fun _ _ => ⟨rfl, e59, (by decide : 37 + 0 ≤ _), (by decide : 286 + 0 ≤ _)⟩)
      dsimp only [Pt.U, Pt.locs, Pt.cells, Pt.slots] at X61 l61 y61 z61 st61 hQ61
      rw [l61, y61, z61] at X61
      obtain ⟨ds2_61, ls2_61, wl2_61, rfl, Nq61, Kp61, G61_0, G61_1, G61_2, G61_3, G61_4, G61_5, G61_6, G61_7, G61_8, G61_9, G61_10, G61_11, H61_0, H61_1, H61_2⟩ := hQ61
      have N61 := Fr.app N59 Nq61
      refine own_goT st61 ?_
      have le_61 : T55.heap.size ≤ T61.heap.size := Kp61.1
      have K61 : Keep h0 T61.heap (own_up n0 h0) := Keep.trans K55 Kp61 (fun x hx => own_up_or (own_up_ge hx))
      have Fz62 : Fld Z T61.heap b2 "com/example/holdback/holdback/sim/EventQueue" "size" "I" (.int (2 : Int32)) := G61_10
      refine own_go (fun _ => XS.pop X61.here hx rfl (hb hby at_197) rfl rfl) ?_
      refine own_go (fun _ => XS.iload X61.here hx rfl (hb hby at_198) rfl) ?_
      refine own_go (fun _ => XS.iconst X61.here hx rfl (hb hby at_200)) ?_
      show ∃ t o, Steps p.tables e below (T61.setTop (mkF m 201 #[.val (.int xn), .val (.int xk), .val (.int xp), .val (.int xu), .val (.int xv), .val (.int ns), .val (.int (3 : Int32)), .val (.int (1 : Int32)), .val (.int ta1), .val (.int ta2), .val (.int ta3), .val (.int sv1), .val (.int sv2), .val (.int sv3), .val (.ref b2), .val (.int (1 : Int32))] [(.int (2 : Int32)), (.int (1 : Int32))])) t ∧ _
      refine own_go (fun _ => XS.icmpYes X61.here hx rfl (pc0 := 201) (pc' := 210) rfl (hb hby at_201) rfl (tlt (by decide : (1 : Int32) < (2 : Int32))).1 (by decide) (by decide)) ?_
      refine own_go (fun _ => XS.iload X61.here hx rfl (hb hby at_210) rfl) ?_
      refine own_go (fun _ => XS.iconst X61.here hx rfl (hb hby at_212)) ?_
      show ∃ t o, Steps p.tables e below (T61.setTop (mkF m 213 #[.val (.int xn), .val (.int xk), .val (.int xp), .val (.int xu), .val (.int xv), .val (.int ns), .val (.int (3 : Int32)), .val (.int (1 : Int32)), .val (.int ta1), .val (.int ta2), .val (.int ta3), .val (.int sv1), .val (.int sv2), .val (.int sv3), .val (.ref b2), .val (.int (1 : Int32))] [(.int (3 : Int32)), (.int (1 : Int32))])) t ∧ _
      refine own_go (fun _ => XS.icmpYes X61.here hx rfl (pc0 := 213) (pc' := 222) rfl (hb hby at_213) rfl (tlt (by decide : (1 : Int32) < (3 : Int32))).1 (by decide) (by decide)) ?_
      refine own_go (fun _ => XS.iload X61.here hx rfl (hb hby at_222) rfl) ?_
      show ∃ t o, Steps p.tables e below (T61.setTop (mkF m 224 #[.val (.int xn), .val (.int xk), .val (.int xp), .val (.int xu), .val (.int xv), .val (.int ns), .val (.int (3 : Int32)), .val (.int (1 : Int32)), .val (.int ta1), .val (.int ta2), .val (.int ta3), .val (.int sv1), .val (.int sv2), .val (.int sv3), .val (.ref b2), .val (.int (1 : Int32))] [(.int (1 : Int32))])) t ∧ _
      refine own_go (fun _ => XS.ifNo X61.here hx rfl (hb hby at_224) rfl ((if0 _ _).trans (feq (by decide : ¬ ((1 : Int32) = (0 : Int32)))).1)) ?_
      refine own_go (fun _ => XS.aload X61.here hx rfl (hb hby at_227) rfl rfl) ?_
      show ∃ t o, Steps p.tables e below (T61.setTop (mkF m 229 #[.val (.int xn), .val (.int xk), .val (.int xp), .val (.int xu), .val (.int xv), .val (.int ns), .val (.int (3 : Int32)), .val (.int (1 : Int32)), .val (.int ta1), .val (.int ta2), .val (.int ta3), .val (.int sv1), .val (.int sv2), .val (.int sv3), .val (.ref b2), .val (.int (1 : Int32))] [(.ref b2)])) t ∧ _
      have F63 := (Old.keep F57 Kp61 (fun x hx => own_up_ge hx))
      have zl64 : n0 ≤ T61.heap.size := by omega
      obtain ⟨cq65, kq65, q65a, q65b, q65c⟩ := isOf hZ rfl G61_0
      obtain ⟨_, _, ⟨T65, L65, k65, n65⟩, -, X65, ⟨Lc65, hQ65, l65, y65, z65⟩, st65⟩ := X61.virtualBack hx (y := (⟨"com/example/holdback/holdback/sim/EventQueue", "isEmpty", "()Z"⟩ : MethodName)) (z := (⟨"com/example/holdback/holdback/sim/EventQueue", "isEmpty", "()Z"⟩ : MethodName)) hown (mvT hZ w_72) (mvT hZ w_73) (notFace_of_selects (args := #[]) (mvT hZ w_75)) (mvT hZ w_75) (mvT hZ w_74) (by decide) (backOf (W := 0) (rmE1 l Z a0 hw [] b2 (2 : Int32) T61.heap n0 zl64 Fz62 F63 (by decide)) hZ w_76 w_6 (by decide) (by decide)) q65a q65c (g := (mkF m 229 #[.val (.int xn), .val (.int xk), .val (.int xp), .val (.int xu), .val (.int xv), .val (.int ns), .val (.int (3 : Int32)), .val (.int (1 : Int32)), .val (.int ta1), .val (.int ta2), .val (.int ta3), .val (.int sv1), .val (.int sv2), .val (.int sv3), .val (.ref b2), .val (.int (1 : Int32))] [(.ref b2)])) rfl (by rw [hml]; rfl) (Steps.refl _) (argsL := []) (rest := []) (lenOf pd__28_29Z rfl) rfl (by show 2 * 0 + _ ≤ _; exact Nat.le_of_eq rfl) (hb hby at_229) (fun _ _ => ⟨rfl, rfl, (by decide : 37 + 0 ≤ _), (by decide : 286 + 0 ≤ _)⟩)
      dsimp only [Pt.U, Pt.locs, Pt.cells, Pt.slots] at X65 l65 y65 z65 st65 hQ65
      rw [l65, y65, z65] at X65
      obtain ⟨rfl, Nq65, e65⟩ := hQ65
      have N65 := Fr.app N61 Nq65
      refine own_goT st65 ?_
      refine own_go (fun _ => XS.iload X65.here hx rfl (hb hby at_232) rfl) ?_
      refine own_go (fun _ => XS.iload X65.here hx rfl (hb hby at_234) rfl) ?_
      refine own_go (fun _ => XS.isub X65.here hx rfl (hb hby at_236) rfl) ?_
      show ∃ t o, Steps p.tables e below (T65.setTop (mkF m 237 #[.val (.int xn), .val (.int xk), .val (.int xp), .val (.int xu), .val (.int xv), .val (.int ns), .val (.int (3 : Int32)), .val (.int (1 : Int32)), .val (.int ta1), .val (.int ta2), .val (.int ta3), .val (.int sv1), .val (.int sv2), .val (.int sv3), .val (.ref b2), .val (.int (1 : Int32))] [(.int (2 : Int32)), (.int (0 : Int32))])) t ∧ _
      refine own_go (fun _ => XS.ifYes X65.here hx rfl (pc0 := 237) (pc' := 244) rfl (hb hby at_237) rfl ((if0 _ _).trans (feq (by decide : ¬ ((2 : Int32) = (0 : Int32)))).2) (by decide) (by decide)) ?_
      refine own_go (fun _ => XS.iconst X65.here hx rfl (hb hby at_244)) ?_
      show ∃ t o, Steps p.tables e below (T65.setTop (mkF m 245 #[.val (.int xn), .val (.int xk), .val (.int xp), .val (.int xu), .val (.int xv), .val (.int ns), .val (.int (3 : Int32)), .val (.int (1 : Int32)), .val (.int ta1), .val (.int ta2), .val (.int ta3), .val (.int sv1), .val (.int sv2), .val (.int sv3), .val (.ref b2), .val (.int (1 : Int32))] [(.int (0 : Int32)), (.int (0 : Int32))])) t ∧ _
      refine own_go (fun _ => XS.icmpNo X65.here hx rfl (hb hby at_245) rfl (teq (by decide : (0 : Int32) = (0 : Int32))).2) ?_
      refine own_go (fun _ => XS.iconst X65.here hx rfl (hb hby at_248)) ?_
      refine own_go (fun _ => XS.goto X65.here hx rfl (pc0 := 249) (pc' := 253) rfl (hb hby at_249) (by decide) (by decide)) ?_
      refine own_go (fun _ => XS.istore X65.here hx rfl (hb hby at_253) rfl (l' := #[.val (.int xn), .val (.int xk), .val (.int xp), .val (.int xu), .val (.int xv), .val (.int ns), .val (.int (3 : Int32)), .val (.int (1 : Int32)), .val (.int ta1), .val (.int ta2), .val (.int ta3), .val (.int sv1), .val (.int sv2), .val (.int sv3), .val (.ref b2), .val (.int (1 : Int32))]) rfl) ?_
      refine own_go (fun _ => XS.iload X65.here hx rfl (hb hby at_255) rfl) ?_
      show ∃ t o, Steps p.tables e below (T65.setTop (mkF m 257 #[.val (.int xn), .val (.int xk), .val (.int xp), .val (.int xu), .val (.int xv), .val (.int ns), .val (.int (3 : Int32)), .val (.int (1 : Int32)), .val (.int ta1), .val (.int ta2), .val (.int ta3), .val (.int sv1), .val (.int sv2), .val (.int sv3), .val (.ref b2), .val (.int (1 : Int32))] [(.int (1 : Int32))])) t ∧ _
      obtain ⟨fs, hr, hrun, hended, hW, hsame⟩ := X65.leave (v := some (.int (1 : Int32))) (fun h => by rw [Bd.returns] at h; cases h)
      refine ⟨_, _, ?_, hrun, hended, _, _, rfl, ?_, ⟨_, rfl⟩, hW, hsame.mono (by decide) (by decide)⟩
      · exact retN X65 hx (t := .boolean) Bd.returns (by simp) (hb hby at_257) hr
      · show Q_rm0 Z _ _ _ _ _ h0 n0 _ T65.heap _
        rw [e65]
        exact ⟨rfl, N65, K61⟩
    · rw [hj]
      show ∃ t o, Steps p.tables e below (T59.setTop (mkF m 189 #[.val (.int xn), .val (.int xk), .val (.int xp), .val (.int xu), .val (.int xv), .val (.int ns), .val (.int (3 : Int32)), .val (.int (2 : Int32)), .val (.int ta1), .val (.int ta2), .val (.int ta3), .val (.int sv1), .val (.int sv2), .val (.int sv3), .val (.ref b2), .val (.int (1 : Int32))] [(.int (1 : Int32)), (.int (2 : Int32))])) t ∧ _
      refine own_go (fun _ => XS.icmpNo X59.here hx rfl (hb hby at_189) rfl (flt (by decide : ¬ ((2 : Int32) < (1 : Int32)))).1) ?_
      refine own_go (fun _ => XS.aload X59.here hx rfl (hb hby at_192) rfl rfl) ?_
      show ∃ t o, Steps p.tables e below (T59.setTop (mkF m 194 #[.val (.int xn), .val (.int xk), .val (.int xp), .val (.int xu), .val (.int xv), .val (.int ns), .val (.int (3 : Int32)), .val (.int (2 : Int32)), .val (.int ta1), .val (.int ta2), .val (.int ta3), .val (.int sv1), .val (.int sv2), .val (.int sv3), .val (.ref b2), .val (.int (1 : Int32))] [(.ref b2)])) t ∧ _
      obtain ⟨cq66, kq66, q66a, q66b, q66c⟩ := isOf hZ e59 G55_0
      obtain ⟨_, _, ⟨T66, L66, k66, n66⟩, -, X66, ⟨Lc66, hQ66, l66, y66, z66⟩, st66⟩ := X59.virtualBack hx (y := (⟨"com/example/holdback/holdback/sim/EventQueue", "poll", "()Ljava/lang/Runnable;"⟩ : MethodName)) (z := (⟨"com/example/holdback/holdback/sim/EventQueue", "poll", "()Ljava/lang/Runnable;"⟩ : MethodName)) hown (mvT hZ w_106) (mvT hZ w_107) (notFace_of_selects (args := #[]) (mvT hZ w_109)) (mvT hZ w_109) (mvT hZ w_108) (by decide) (backOf (W := 0) (rmPoll l Z a0 hw [] b2 fa_6 fp_6 wi_6 kf_6 kp_6 kw_6 ds2_55 ls2_55 wl2_55 zN_6 z2_6 ss_6 ks_6 vs_6 ff_6 (ta3.toInt) (((((0 : Int) + 1) + 1) + 1)) (3 : Int32) (((((0 : Int64) + (1 : Int64)) + (1 : Int64)) + (1 : Int64))) T55.heap n0 zl58 G55_0 G55_1 G55_2 G55_3 G55_4 G55_5 G55_6 G55_7 G55_8 G55_9 Fz56 G55_11 F57 H55_0 H55_1 H55_2 H6_3 H6_4 H6_5 H6_6 H6_7 H6_8 H6_9 ge4 (by omega) (by decide)) hZ w_110 w_6 (by decide) (by decide)) q66a q66c (g := (mkF m 194 #[.val (.int xn), .val (.int xk), .val (.int xp), .val (.int xu), .val (.int xv), .val (.int ns), .val (.int (3 : Int32)), .val (.int (2 : Int32)), .val (.int ta1), .val (.int ta2), .val (.int ta3), .val (.int sv1), .val (.int sv2), .val (.int sv3), .val (.ref b2), .val (.int (1 : Int32))] [(.ref b2)])) rfl (by rw [hml]; rfl) (Steps.refl _) (argsL := []) (rest := []) (lenOf pd__28_29Ljava_2flang_2fRunnable_3b rfl) rfl (by show 2 * 0 + _ ≤ _; exact Nat.le_of_eq rfl) (hb hby at_194) (fun _ _ => ⟨rfl, e59, (by decide : 37 + 0 ≤ _), (by decide : 286 + 0 ≤ _)⟩)
      dsimp only [Pt.U, Pt.locs, Pt.cells, Pt.slots] at X66 l66 y66 z66 st66 hQ66
      rw [l66, y66, z66] at X66
      obtain ⟨ds2_66, ls2_66, wl2_66, rfl, Nq66, Kp66, G66_0, G66_1, G66_2, G66_3, G66_4, G66_5, G66_6, G66_7, G66_8, G66_9, G66_10, G66_11, H66_0, H66_1, H66_2⟩ := hQ66
      have N66 := Fr.app N59 Nq66
      refine own_goT st66 ?_
      have le_66 : T55.heap.size ≤ T66.heap.size := Kp66.1
      have K66 : Keep h0 T66.heap (own_up n0 h0) := Keep.trans K55 Kp66 (fun x hx => own_up_or (own_up_ge hx))
      have Fz67 : Fld Z T66.heap b2 "com/example/holdback/holdback/sim/EventQueue" "size" "I" (.int (2 : Int32)) := G66_10
      refine own_go (fun _ => XS.pop X66.here hx rfl (hb hby at_197) rfl rfl) ?_
      refine own_go (fun _ => XS.iload X66.here hx rfl (hb hby at_198) rfl) ?_
      refine own_go (fun _ => XS.iconst X66.here hx rfl (hb hby at_200)) ?_
      show ∃ t o, Steps p.tables e below (T66.setTop (mkF m 201 #[.val (.int xn), .val (.int xk), .val (.int xp), .val (.int xu), .val (.int xv), .val (.int ns), .val (.int (3 : Int32)), .val (.int (2 : Int32)), .val (.int ta1), .val (.int ta2), .val (.int ta3), .val (.int sv1), .val (.int sv2), .val (.int sv3), .val (.ref b2), .val (.int (1 : Int32))] [(.int (2 : Int32)), (.int (2 : Int32))])) t ∧ _
      refine own_go (fun _ => XS.icmpNo X66.here hx rfl (hb hby at_201) rfl (flt (by decide : ¬ ((2 : Int32) < (2 : Int32)))).1) ?_
      refine own_go (fun _ => XS.aload X66.here hx rfl (hb hby at_204) rfl rfl) ?_
      show ∃ t o, Steps p.tables e below (T66.setTop (mkF m 206 #[.val (.int xn), .val (.int xk), .val (.int xp), .val (.int xu), .val (.int xv), .val (.int ns), .val (.int (3 : Int32)), .val (.int (2 : Int32)), .val (.int ta1), .val (.int ta2), .val (.int ta3), .val (.int sv1), .val (.int sv2), .val (.int sv3), .val (.ref b2), .val (.int (1 : Int32))] [(.ref b2)])) t ∧ _
      have F68 := (Old.keep F57 Kp66 (fun x hx => own_up_ge hx))
      have zl69 : n0 ≤ T66.heap.size := by omega
      obtain ⟨cq70, kq70, q70a, q70b, q70c⟩ := isOf hZ rfl G66_0
      obtain ⟨_, _, ⟨T70, L70, k70, n70⟩, -, X70, ⟨Lc70, hQ70, l70, y70, z70⟩, st70⟩ := X66.virtualBack hx (y := (⟨"com/example/holdback/holdback/sim/EventQueue", "poll", "()Ljava/lang/Runnable;"⟩ : MethodName)) (z := (⟨"com/example/holdback/holdback/sim/EventQueue", "poll", "()Ljava/lang/Runnable;"⟩ : MethodName)) hown (mvT hZ w_106) (mvT hZ w_107) (notFace_of_selects (args := #[]) (mvT hZ w_109)) (mvT hZ w_109) (mvT hZ w_108) (by decide) (backOf (W := 0) (rmPoll l Z a0 hw [] b2 fa_6 fp_6 wi_6 kf_6 kp_6 kw_6 ds2_66 ls2_66 wl2_66 zN_6 z2_6 ss_6 ks_6 vs_6 ff_6 (ta3.toInt) ((((((0 : Int) + 1) + 1) + 1) + 1)) (2 : Int32) (((((0 : Int64) + (1 : Int64)) + (1 : Int64)) + (1 : Int64))) T66.heap n0 zl69 G66_0 G66_1 G66_2 G66_3 G66_4 G66_5 G66_6 G66_7 G66_8 G66_9 Fz67 G66_11 F68 H66_0 H66_1 H66_2 H6_3 H6_4 H6_5 H6_6 H6_7 H6_8 H6_9 ge4 (by omega) (by decide)) hZ w_110 w_6 (by decide) (by decide)) q70a q70c (g := (mkF m 206 #[.val (.int xn), .val (.int xk), .val (.int xp), .val (.int xu), .val (.int xv), .val (.int ns), .val (.int (3 : Int32)), .val (.int (2 : Int32)), .val (.int ta1), .val (.int ta2), .val (.int ta3), .val (.int sv1), .val (.int sv2), .val (.int sv3), .val (.ref b2), .val (.int (1 : Int32))] [(.ref b2)])) rfl (by rw [hml]; rfl) (Steps.refl _) (argsL := []) (rest := []) (lenOf pd__28_29Ljava_2flang_2fRunnable_3b rfl) rfl (by show 2 * 0 + _ ≤ _; exact Nat.le_of_eq rfl) (hb hby at_206) (fun _ _ => ⟨rfl, rfl, (by decide : 37 + 0 ≤ _), (by decide : 286 + 0 ≤ _)⟩)
      dsimp only [Pt.U, Pt.locs, Pt.cells, Pt.slots] at X70 l70 y70 z70 st70 hQ70
      rw [l70, y70, z70] at X70
      obtain ⟨ds2_70, ls2_70, wl2_70, rfl, Nq70, Kp70, G70_0, G70_1, G70_2, G70_3, G70_4, G70_5, G70_6, G70_7, G70_8, G70_9, G70_10, G70_11, H70_0, H70_1, H70_2⟩ := hQ70
      have N70 := Fr.app N66 Nq70
      refine own_goT st70 ?_
      have le_70 : T66.heap.size ≤ T70.heap.size := Kp70.1
      have K70 : Keep h0 T70.heap (own_up n0 h0) := Keep.trans K66 Kp70 (fun x hx => own_up_or (own_up_ge hx))
      have Fz71 : Fld Z T70.heap b2 "com/example/holdback/holdback/sim/EventQueue" "size" "I" (.int (1 : Int32)) := G70_10
      refine own_go (fun _ => XS.pop X70.here hx rfl (hb hby at_209) rfl rfl) ?_
      refine own_go (fun _ => XS.iload X70.here hx rfl (hb hby at_210) rfl) ?_
      refine own_go (fun _ => XS.iconst X70.here hx rfl (hb hby at_212)) ?_
      show ∃ t o, Steps p.tables e below (T70.setTop (mkF m 213 #[.val (.int xn), .val (.int xk), .val (.int xp), .val (.int xu), .val (.int xv), .val (.int ns), .val (.int (3 : Int32)), .val (.int (2 : Int32)), .val (.int ta1), .val (.int ta2), .val (.int ta3), .val (.int sv1), .val (.int sv2), .val (.int sv3), .val (.ref b2), .val (.int (1 : Int32))] [(.int (3 : Int32)), (.int (2 : Int32))])) t ∧ _
      refine own_go (fun _ => XS.icmpYes X70.here hx rfl (pc0 := 213) (pc' := 222) rfl (hb hby at_213) rfl (tlt (by decide : (2 : Int32) < (3 : Int32))).1 (by decide) (by decide)) ?_
      refine own_go (fun _ => XS.iload X70.here hx rfl (hb hby at_222) rfl) ?_
      show ∃ t o, Steps p.tables e below (T70.setTop (mkF m 224 #[.val (.int xn), .val (.int xk), .val (.int xp), .val (.int xu), .val (.int xv), .val (.int ns), .val (.int (3 : Int32)), .val (.int (2 : Int32)), .val (.int ta1), .val (.int ta2), .val (.int ta3), .val (.int sv1), .val (.int sv2), .val (.int sv3), .val (.ref b2), .val (.int (1 : Int32))] [(.int (1 : Int32))])) t ∧ _
      refine own_go (fun _ => XS.ifNo X70.here hx rfl (hb hby at_224) rfl ((if0 _ _).trans (feq (by decide : ¬ ((1 : Int32) = (0 : Int32)))).1)) ?_
      refine own_go (fun _ => XS.aload X70.here hx rfl (hb hby at_227) rfl rfl) ?_
      show ∃ t o, Steps p.tables e below (T70.setTop (mkF m 229 #[.val (.int xn), .val (.int xk), .val (.int xp), .val (.int xu), .val (.int xv), .val (.int ns), .val (.int (3 : Int32)), .val (.int (2 : Int32)), .val (.int ta1), .val (.int ta2), .val (.int ta3), .val (.int sv1), .val (.int sv2), .val (.int sv3), .val (.ref b2), .val (.int (1 : Int32))] [(.ref b2)])) t ∧ _
      have F72 := (Old.keep F68 Kp70 (fun x hx => own_up_ge hx))
      have zl73 : n0 ≤ T70.heap.size := by omega
      obtain ⟨cq74, kq74, q74a, q74b, q74c⟩ := isOf hZ rfl G70_0
      obtain ⟨_, _, ⟨T74, L74, k74, n74⟩, -, X74, ⟨Lc74, hQ74, l74, y74, z74⟩, st74⟩ := X70.virtualBack hx (y := (⟨"com/example/holdback/holdback/sim/EventQueue", "isEmpty", "()Z"⟩ : MethodName)) (z := (⟨"com/example/holdback/holdback/sim/EventQueue", "isEmpty", "()Z"⟩ : MethodName)) hown (mvT hZ w_72) (mvT hZ w_73) (notFace_of_selects (args := #[]) (mvT hZ w_75)) (mvT hZ w_75) (mvT hZ w_74) (by decide) (backOf (W := 0) (rmE1 l Z a0 hw [] b2 (1 : Int32) T70.heap n0 zl73 Fz71 F72 (by decide)) hZ w_76 w_6 (by decide) (by decide)) q74a q74c (g := (mkF m 229 #[.val (.int xn), .val (.int xk), .val (.int xp), .val (.int xu), .val (.int xv), .val (.int ns), .val (.int (3 : Int32)), .val (.int (2 : Int32)), .val (.int ta1), .val (.int ta2), .val (.int ta3), .val (.int sv1), .val (.int sv2), .val (.int sv3), .val (.ref b2), .val (.int (1 : Int32))] [(.ref b2)])) rfl (by rw [hml]; rfl) (Steps.refl _) (argsL := []) (rest := []) (lenOf pd__28_29Z rfl) rfl (by show 2 * 0 + _ ≤ _; exact Nat.le_of_eq rfl) (hb hby at_229) (fun _ _ => ⟨rfl, rfl, (by decide : 37 + 0 ≤ _), (by decide : 286 + 0 ≤ _)⟩)
      dsimp only [Pt.U, Pt.locs, Pt.cells, Pt.slots] at X74 l74 y74 z74 st74 hQ74
      rw [l74, y74, z74] at X74
      obtain ⟨rfl, Nq74, e74⟩ := hQ74
      have N74 := Fr.app N70 Nq74
      refine own_goT st74 ?_
      refine own_go (fun _ => XS.iload X74.here hx rfl (hb hby at_232) rfl) ?_
      refine own_go (fun _ => XS.iload X74.here hx rfl (hb hby at_234) rfl) ?_
      refine own_go (fun _ => XS.isub X74.here hx rfl (hb hby at_236) rfl) ?_
      show ∃ t o, Steps p.tables e below (T74.setTop (mkF m 237 #[.val (.int xn), .val (.int xk), .val (.int xp), .val (.int xu), .val (.int xv), .val (.int ns), .val (.int (3 : Int32)), .val (.int (2 : Int32)), .val (.int ta1), .val (.int ta2), .val (.int ta3), .val (.int sv1), .val (.int sv2), .val (.int sv3), .val (.ref b2), .val (.int (1 : Int32))] [(.int (1 : Int32)), (.int (0 : Int32))])) t ∧ _
      refine own_go (fun _ => XS.ifYes X74.here hx rfl (pc0 := 237) (pc' := 244) rfl (hb hby at_237) rfl ((if0 _ _).trans (feq (by decide : ¬ ((1 : Int32) = (0 : Int32)))).2) (by decide) (by decide)) ?_
      refine own_go (fun _ => XS.iconst X74.here hx rfl (hb hby at_244)) ?_
      show ∃ t o, Steps p.tables e below (T74.setTop (mkF m 245 #[.val (.int xn), .val (.int xk), .val (.int xp), .val (.int xu), .val (.int xv), .val (.int ns), .val (.int (3 : Int32)), .val (.int (2 : Int32)), .val (.int ta1), .val (.int ta2), .val (.int ta3), .val (.int sv1), .val (.int sv2), .val (.int sv3), .val (.ref b2), .val (.int (1 : Int32))] [(.int (0 : Int32)), (.int (0 : Int32))])) t ∧ _
      refine own_go (fun _ => XS.icmpNo X74.here hx rfl (hb hby at_245) rfl (teq (by decide : (0 : Int32) = (0 : Int32))).2) ?_
      refine own_go (fun _ => XS.iconst X74.here hx rfl (hb hby at_248)) ?_
      refine own_go (fun _ => XS.goto X74.here hx rfl (pc0 := 249) (pc' := 253) rfl (hb hby at_249) (by decide) (by decide)) ?_
      refine own_go (fun _ => XS.istore X74.here hx rfl (hb hby at_253) rfl (l' := #[.val (.int xn), .val (.int xk), .val (.int xp), .val (.int xu), .val (.int xv), .val (.int ns), .val (.int (3 : Int32)), .val (.int (2 : Int32)), .val (.int ta1), .val (.int ta2), .val (.int ta3), .val (.int sv1), .val (.int sv2), .val (.int sv3), .val (.ref b2), .val (.int (1 : Int32))]) rfl) ?_
      refine own_go (fun _ => XS.iload X74.here hx rfl (hb hby at_255) rfl) ?_
      show ∃ t o, Steps p.tables e below (T74.setTop (mkF m 257 #[.val (.int xn), .val (.int xk), .val (.int xp), .val (.int xu), .val (.int xv), .val (.int ns), .val (.int (3 : Int32)), .val (.int (2 : Int32)), .val (.int ta1), .val (.int ta2), .val (.int ta3), .val (.int sv1), .val (.int sv2), .val (.int sv3), .val (.ref b2), .val (.int (1 : Int32))] [(.int (1 : Int32))])) t ∧ _
      obtain ⟨fs, hr, hrun, hended, hW, hsame⟩ := X74.leave (v := some (.int (1 : Int32))) (fun h => by rw [Bd.returns] at h; cases h)
      refine ⟨_, _, ?_, hrun, hended, _, _, rfl, ?_, ⟨_, rfl⟩, hW, hsame.mono (by decide) (by decide)⟩
      · exact retN X74 hx (t := .boolean) Bd.returns (by simp) (hb hby at_257) hr
      · show Q_rm0 Z _ _ _ _ _ h0 n0 _ T74.heap _
        rw [e74]
        exact ⟨rfl, N74, K70⟩
    · rw [hj]
      show ∃ t o, Steps p.tables e below (T59.setTop (mkF m 189 #[.val (.int xn), .val (.int xk), .val (.int xp), .val (.int xu), .val (.int xv), .val (.int ns), .val (.int (3 : Int32)), .val (.int (3 : Int32)), .val (.int ta1), .val (.int ta2), .val (.int ta3), .val (.int sv1), .val (.int sv2), .val (.int sv3), .val (.ref b2), .val (.int (1 : Int32))] [(.int (1 : Int32)), (.int (3 : Int32))])) t ∧ _
      refine own_go (fun _ => XS.icmpNo X59.here hx rfl (hb hby at_189) rfl (flt (by decide : ¬ ((3 : Int32) < (1 : Int32)))).1) ?_
      refine own_go (fun _ => XS.aload X59.here hx rfl (hb hby at_192) rfl rfl) ?_
      show ∃ t o, Steps p.tables e below (T59.setTop (mkF m 194 #[.val (.int xn), .val (.int xk), .val (.int xp), .val (.int xu), .val (.int xv), .val (.int ns), .val (.int (3 : Int32)), .val (.int (3 : Int32)), .val (.int ta1), .val (.int ta2), .val (.int ta3), .val (.int sv1), .val (.int sv2), .val (.int sv3), .val (.ref b2), .val (.int (1 : Int32))] [(.ref b2)])) t ∧ _
      obtain ⟨cq75, kq75, q75a, q75b, q75c⟩ := isOf hZ e59 G55_0
      obtain ⟨_, _, ⟨T75, L75, k75, n75⟩, -, X75, ⟨Lc75, hQ75, l75, y75, z75⟩, st75⟩ := X59.virtualBack hx (y := (⟨"com/example/holdback/holdback/sim/EventQueue", "poll", "()Ljava/lang/Runnable;"⟩ : MethodName)) (z := (⟨"com/example/holdback/holdback/sim/EventQueue", "poll", "()Ljava/lang/Runnable;"⟩ : MethodName)) hown (mvT hZ w_106) (mvT hZ w_107) (notFace_of_selects (args := #[]) (mvT hZ w_109)) (mvT hZ w_109) (mvT hZ w_108) (by decide) (backOf (W := 0) (rmPoll l Z a0 hw [] b2 fa_6 fp_6 wi_6 kf_6 kp_6 kw_6 ds2_55 ls2_55 wl2_55 zN_6 z2_6 ss_6 ks_6 vs_6 ff_6 (ta3.toInt) (((((0 : Int) + 1) + 1) + 1)) (3 : Int32) (((((0 : Int64) + (1 : Int64)) + (1 : Int64)) + (1 : Int64))) T55.heap n0 zl58 G55_0 G55_1 G55_2 G55_3 G55_4 G55_5 G55_6 G55_7 G55_8 G55_9 Fz56 G55_11 F57 H55_0 H55_1 H55_2 H6_3 H6_4 H6_5 H6_6 H6_7 H6_8 H6_9 ge4 (by omega) (by decide)) hZ w_110 w_6 (by decide) (by decide)) q75a q75c (g := (mkF m 194 #[.val (.int xn), .val (.int xk), .val (.int xp), .val (.int xu), .val (.int xv), .val (.int ns), .val (.int (3 : Int32)), .val (.int (3 : Int32)), .val (.int ta1), .val (.int ta2), .val (.int ta3), .val (.int sv1), .val (.int sv2), .val (.int sv3), .val (.ref b2), .val (.int (1 : Int32))] [(.ref b2)])) rfl (by rw [hml]; rfl) (Steps.refl _) (argsL := []) (rest := []) (lenOf pd__28_29Ljava_2flang_2fRunnable_3b rfl) rfl (by show 2 * 0 + _ ≤ _; exact Nat.le_of_eq rfl) (hb hby at_194) (fun _ _ => ⟨rfl, e59, (by decide : 37 + 0 ≤ _), (by decide : 286 + 0 ≤ _)⟩)
      dsimp only [Pt.U, Pt.locs, Pt.cells, Pt.slots] at X75 l75 y75 z75 st75 hQ75
      rw [l75, y75, z75] at X75
      obtain ⟨ds2_75, ls2_75, wl2_75, rfl, Nq75, Kp75, G75_0, G75_1, G75_2, G75_3, G75_4, G75_5, G75_6, G75_7, G75_8, G75_9, G75_10, G75_11, H75_0, H75_1, H75_2⟩ := hQ75
      have N75 := Fr.app N59 Nq75
      refine own_goT st75 ?_
      have le_75 : T55.heap.size ≤ T75.heap.size := Kp75.1
      have K75 : Keep h0 T75.heap (own_up n0 h0) := Keep.trans K55 Kp75 (fun x hx => own_up_or (own_up_ge hx))
      have Fz76 : Fld Z T75.heap b2 "com/example/holdback/holdback/sim/EventQueue" "size" "I" (.int (2 : Int32)) := G75_10
      refine own_go (fun _ => XS.pop X75.here hx rfl (hb hby at_197) rfl rfl) ?_
      refine own_go (fun _ => XS.iload X75.here hx rfl (hb hby at_198) rfl) ?_
      refine own_go (fun _ => XS.iconst X75.here hx rfl (hb hby at_200)) ?_
      show ∃ t o, Steps p.tables e below (T75.setTop (mkF m 201 #[.val (.int xn), .val (.int xk), .val (.int xp), .val (.int xu), .val (.int xv), .val (.int ns), .val (.int (3 : Int32)), .val (.int (3 : Int32)), .val (.int ta1), .val (.int ta2), .val (.int ta3), .val (.int sv1), .val (.int sv2), .val (.int sv3), .val (.ref b2), .val (.int (1 : Int32))] [(.int (2 : Int32)), (.int (3 : Int32))])) t ∧ _
      refine own_go (fun _ => XS.icmpNo X75.here hx rfl (hb hby at_201) rfl (flt (by decide : ¬ ((3 : Int32) < (2 : Int32)))).1) ?_
      refine own_go (fun _ => XS.aload X75.here hx rfl (hb hby at_204) rfl rfl) ?_
      show ∃ t o, Steps p.tables e below (T75.setTop (mkF m 206 #[.val (.int xn), .val (.int xk), .val (.int xp), .val (.int xu), .val (.int xv), .val (.int ns), .val (.int (3 : Int32)), .val (.int (3 : Int32)), .val (.int ta1), .val (.int ta2), .val (.int ta3), .val (.int sv1), .val (.int sv2), .val (.int sv3), .val (.ref b2), .val (.int (1 : Int32))] [(.ref b2)])) t ∧ _
      have F77 := (Old.keep F57 Kp75 (fun x hx => own_up_ge hx))
      have zl78 : n0 ≤ T75.heap.size := by omega
      obtain ⟨cq79, kq79, q79a, q79b, q79c⟩ := isOf hZ rfl G75_0
      obtain ⟨_, _, ⟨T79, L79, k79, n79⟩, -, X79, ⟨Lc79, hQ79, l79, y79, z79⟩, st79⟩ := X75.virtualBack hx (y := (⟨"com/example/holdback/holdback/sim/EventQueue", "poll", "()Ljava/lang/Runnable;"⟩ : MethodName)) (z := (⟨"com/example/holdback/holdback/sim/EventQueue", "poll", "()Ljava/lang/Runnable;"⟩ : MethodName)) hown (mvT hZ w_106) (mvT hZ w_107) (notFace_of_selects (args := #[]) (mvT hZ w_109)) (mvT hZ w_109) (mvT hZ w_108) (by decide) (backOf (W := 0) (rmPoll l Z a0 hw [] b2 fa_6 fp_6 wi_6 kf_6 kp_6 kw_6 ds2_75 ls2_75 wl2_75 zN_6 z2_6 ss_6 ks_6 vs_6 ff_6 (ta3.toInt) ((((((0 : Int) + 1) + 1) + 1) + 1)) (2 : Int32) (((((0 : Int64) + (1 : Int64)) + (1 : Int64)) + (1 : Int64))) T75.heap n0 zl78 G75_0 G75_1 G75_2 G75_3 G75_4 G75_5 G75_6 G75_7 G75_8 G75_9 Fz76 G75_11 F77 H75_0 H75_1 H75_2 H6_3 H6_4 H6_5 H6_6 H6_7 H6_8 H6_9 ge4 (by omega) (by decide)) hZ w_110 w_6 (by decide) (by decide)) q79a q79c (g := (mkF m 206 #[.val (.int xn), .val (.int xk), .val (.int xp), .val (.int xu), .val (.int xv), .val (.int ns), .val (.int (3 : Int32)), .val (.int (3 : Int32)), .val (.int ta1), .val (.int ta2), .val (.int ta3), .val (.int sv1), .val (.int sv2), .val (.int sv3), .val (.ref b2), .val (.int (1 : Int32))] [(.ref b2)])) rfl (by rw [hml]; rfl) (Steps.refl _) (argsL := []) (rest := []) (lenOf pd__28_29Ljava_2flang_2fRunnable_3b rfl) rfl (by show 2 * 0 + _ ≤ _; exact Nat.le_of_eq rfl) (hb hby at_206) (fun _ _ => ⟨rfl, rfl, (by decide : 37 + 0 ≤ _), (by decide : 286 + 0 ≤ _)⟩)
      dsimp only [Pt.U, Pt.locs, Pt.cells, Pt.slots] at X79 l79 y79 z79 st79 hQ79
      rw [l79, y79, z79] at X79
      obtain ⟨ds2_79, ls2_79, wl2_79, rfl, Nq79, Kp79, G79_0, G79_1, G79_2, G79_3, G79_4, G79_5, G79_6, G79_7, G79_8, G79_9, G79_10, G79_11, H79_0, H79_1, H79_2⟩ := hQ79
      have N79 := Fr.app N75 Nq79
      refine own_goT st79 ?_
      have le_79 : T75.heap.size ≤ T79.heap.size := Kp79.1
      have K79 : Keep h0 T79.heap (own_up n0 h0) := Keep.trans K75 Kp79 (fun x hx => own_up_or (own_up_ge hx))
      have Fz80 : Fld Z T79.heap b2 "com/example/holdback/holdback/sim/EventQueue" "size" "I" (.int (1 : Int32)) := G79_10
      refine own_go (fun _ => XS.pop X79.here hx rfl (hb hby at_209) rfl rfl) ?_
      refine own_go (fun _ => XS.iload X79.here hx rfl (hb hby at_210) rfl) ?_
      refine own_go (fun _ => XS.iconst X79.here hx rfl (hb hby at_212)) ?_
      show ∃ t o, Steps p.tables e below (T79.setTop (mkF m 213 #[.val (.int xn), .val (.int xk), .val (.int xp), .val (.int xu), .val (.int xv), .val (.int ns), .val (.int (3 : Int32)), .val (.int (3 : Int32)), .val (.int ta1), .val (.int ta2), .val (.int ta3), .val (.int sv1), .val (.int sv2), .val (.int sv3), .val (.ref b2), .val (.int (1 : Int32))] [(.int (3 : Int32)), (.int (3 : Int32))])) t ∧ _
      refine own_go (fun _ => XS.icmpNo X79.here hx rfl (hb hby at_213) rfl (flt (by decide : ¬ ((3 : Int32) < (3 : Int32)))).1) ?_
      refine own_go (fun _ => XS.aload X79.here hx rfl (hb hby at_216) rfl rfl) ?_
      show ∃ t o, Steps p.tables e below (T79.setTop (mkF m 218 #[.val (.int xn), .val (.int xk), .val (.int xp), .val (.int xu), .val (.int xv), .val (.int ns), .val (.int (3 : Int32)), .val (.int (3 : Int32)), .val (.int ta1), .val (.int ta2), .val (.int ta3), .val (.int sv1), .val (.int sv2), .val (.int sv3), .val (.ref b2), .val (.int (1 : Int32))] [(.ref b2)])) t ∧ _
      have F81 := (Old.keep F77 Kp79 (fun x hx => own_up_ge hx))
      have zl82 : n0 ≤ T79.heap.size := by omega
      obtain ⟨cq83, kq83, q83a, q83b, q83c⟩ := isOf hZ rfl G79_0
      obtain ⟨_, _, ⟨T83, L83, k83, n83⟩, -, X83, ⟨Lc83, hQ83, l83, y83, z83⟩, st83⟩ := X79.virtualBack hx (y := (⟨"com/example/holdback/holdback/sim/EventQueue", "poll", "()Ljava/lang/Runnable;"⟩ : MethodName)) (z := (⟨"com/example/holdback/holdback/sim/EventQueue", "poll", "()Ljava/lang/Runnable;"⟩ : MethodName)) hown (mvT hZ w_106) (mvT hZ w_107) (notFace_of_selects (args := #[]) (mvT hZ w_109)) (mvT hZ w_109) (mvT hZ w_108) (by decide) (backOf (W := 0) (rmPoll l Z a0 hw [] b2 fa_6 fp_6 wi_6 kf_6 kp_6 kw_6 ds2_79 ls2_79 wl2_79 zN_6 z2_6 ss_6 ks_6 vs_6 ff_6 (ta3.toInt) (((((((0 : Int) + 1) + 1) + 1) + 1) + 1)) (1 : Int32) (((((0 : Int64) + (1 : Int64)) + (1 : Int64)) + (1 : Int64))) T79.heap n0 zl82 G79_0 G79_1 G79_2 G79_3 G79_4 G79_5 G79_6 G79_7 G79_8 G79_9 Fz80 G79_11 F81 H79_0 H79_1 H79_2 H6_3 H6_4 H6_5 H6_6 H6_7 H6_8 H6_9 ge4 (by omega) (by decide)) hZ w_110 w_6 (by decide) (by decide)) q83a q83c (g := (mkF m 218 #[.val (.int xn), .val (.int xk), .val (.int xp), .val (.int xu), .val (.int xv), .val (.int ns), .val (.int (3 : Int32)), .val (.int (3 : Int32)), .val (.int ta1), .val (.int ta2), .val (.int ta3), .val (.int sv1), .val (.int sv2), .val (.int sv3), .val (.ref b2), .val (.int (1 : Int32))] [(.ref b2)])) rfl (by rw [hml]; rfl) (Steps.refl _) (argsL := []) (rest := []) (lenOf pd__28_29Ljava_2flang_2fRunnable_3b rfl) rfl (by show 2 * 0 + _ ≤ _; exact Nat.le_of_eq rfl) (hb hby at_218) (fun _ _ => ⟨rfl, rfl, (by decide : 37 + 0 ≤ _), (by decide : 286 + 0 ≤ _)⟩)
      dsimp only [Pt.U, Pt.locs, Pt.cells, Pt.slots] at X83 l83 y83 z83 st83 hQ83
      rw [l83, y83, z83] at X83
      obtain ⟨ds2_83, ls2_83, wl2_83, rfl, Nq83, Kp83, G83_0, G83_1, G83_2, G83_3, G83_4, G83_5, G83_6, G83_7, G83_8, G83_9, G83_10, G83_11, H83_0, H83_1, H83_2⟩ := hQ83
      have N83 := Fr.app N79 Nq83
      refine own_goT st83 ?_
      have le_83 : T79.heap.size ≤ T83.heap.size := Kp83.1
      have K83 : Keep h0 T83.heap (own_up n0 h0) := Keep.trans K79 Kp83 (fun x hx => own_up_or (own_up_ge hx))
      have Fz84 : Fld Z T83.heap b2 "com/example/holdback/holdback/sim/EventQueue" "size" "I" (.int (0 : Int32)) := G83_10
      refine own_go (fun _ => XS.pop X83.here hx rfl (hb hby at_221) rfl rfl) ?_
      refine own_go (fun _ => XS.iload X83.here hx rfl (hb hby at_222) rfl) ?_
      show ∃ t o, Steps p.tables e below (T83.setTop (mkF m 224 #[.val (.int xn), .val (.int xk), .val (.int xp), .val (.int xu), .val (.int xv), .val (.int ns), .val (.int (3 : Int32)), .val (.int (3 : Int32)), .val (.int ta1), .val (.int ta2), .val (.int ta3), .val (.int sv1), .val (.int sv2), .val (.int sv3), .val (.ref b2), .val (.int (1 : Int32))] [(.int (1 : Int32))])) t ∧ _
      refine own_go (fun _ => XS.ifNo X83.here hx rfl (hb hby at_224) rfl ((if0 _ _).trans (feq (by decide : ¬ ((1 : Int32) = (0 : Int32)))).1)) ?_
      refine own_go (fun _ => XS.aload X83.here hx rfl (hb hby at_227) rfl rfl) ?_
      show ∃ t o, Steps p.tables e below (T83.setTop (mkF m 229 #[.val (.int xn), .val (.int xk), .val (.int xp), .val (.int xu), .val (.int xv), .val (.int ns), .val (.int (3 : Int32)), .val (.int (3 : Int32)), .val (.int ta1), .val (.int ta2), .val (.int ta3), .val (.int sv1), .val (.int sv2), .val (.int sv3), .val (.ref b2), .val (.int (1 : Int32))] [(.ref b2)])) t ∧ _
      have F85 := (Old.keep F81 Kp83 (fun x hx => own_up_ge hx))
      have zl86 : n0 ≤ T83.heap.size := by omega
      obtain ⟨cq87, kq87, q87a, q87b, q87c⟩ := isOf hZ rfl G83_0
      obtain ⟨_, _, ⟨T87, L87, k87, n87⟩, -, X87, ⟨Lc87, hQ87, l87, y87, z87⟩, st87⟩ := X83.virtualBack hx (y := (⟨"com/example/holdback/holdback/sim/EventQueue", "isEmpty", "()Z"⟩ : MethodName)) (z := (⟨"com/example/holdback/holdback/sim/EventQueue", "isEmpty", "()Z"⟩ : MethodName)) hown (mvT hZ w_72) (mvT hZ w_73) (notFace_of_selects (args := #[]) (mvT hZ w_75)) (mvT hZ w_75) (mvT hZ w_74) (by decide) (backOf (W := 0) (rmE0 l Z a0 hw [] b2 T83.heap n0 zl86 Fz84 F85) hZ w_76 w_6 (by decide) (by decide)) q87a q87c (g := (mkF m 229 #[.val (.int xn), .val (.int xk), .val (.int xp), .val (.int xu), .val (.int xv), .val (.int ns), .val (.int (3 : Int32)), .val (.int (3 : Int32)), .val (.int ta1), .val (.int ta2), .val (.int ta3), .val (.int sv1), .val (.int sv2), .val (.int sv3), .val (.ref b2), .val (.int (1 : Int32))] [(.ref b2)])) rfl (by rw [hml]; rfl) (Steps.refl _) (argsL := []) (rest := []) (lenOf pd__28_29Z rfl) rfl (by show 2 * 0 + _ ≤ _; exact Nat.le_of_eq rfl) (hb hby at_229) (fun _ _ => ⟨rfl, rfl, (by decide : 37 + 0 ≤ _), (by decide : 286 + 0 ≤ _)⟩)
      dsimp only [Pt.U, Pt.locs, Pt.cells, Pt.slots] at X87 l87 y87 z87 st87 hQ87
      rw [l87, y87, z87] at X87
      obtain ⟨rfl, Nq87, e87⟩ := hQ87
      have N87 := Fr.app N83 Nq87
      refine own_goT st87 ?_
      refine own_go (fun _ => XS.iload X87.here hx rfl (hb hby at_232) rfl) ?_
      refine own_go (fun _ => XS.iload X87.here hx rfl (hb hby at_234) rfl) ?_
      refine own_go (fun _ => XS.isub X87.here hx rfl (hb hby at_236) rfl) ?_
      show ∃ t o, Steps p.tables e below (T87.setTop (mkF m 237 #[.val (.int xn), .val (.int xk), .val (.int xp), .val (.int xu), .val (.int xv), .val (.int ns), .val (.int (3 : Int32)), .val (.int (3 : Int32)), .val (.int ta1), .val (.int ta2), .val (.int ta3), .val (.int sv1), .val (.int sv2), .val (.int sv3), .val (.ref b2), .val (.int (1 : Int32))] [(.int (0 : Int32)), (.int (1 : Int32))])) t ∧ _
      refine own_go (fun _ => XS.ifNo X87.here hx rfl (hb hby at_237) rfl ((if0 _ _).trans (teq (by decide : (0 : Int32) = (0 : Int32))).2)) ?_
      refine own_go (fun _ => XS.iconst X87.here hx rfl (hb hby at_240)) ?_
      refine own_go (fun _ => XS.goto X87.here hx rfl (pc0 := 241) (pc' := 245) rfl (hb hby at_241) (by decide) (by decide)) ?_
      show ∃ t o, Steps p.tables e below (T87.setTop (mkF m 245 #[.val (.int xn), .val (.int xk), .val (.int xp), .val (.int xu), .val (.int xv), .val (.int ns), .val (.int (3 : Int32)), .val (.int (3 : Int32)), .val (.int ta1), .val (.int ta2), .val (.int ta3), .val (.int sv1), .val (.int sv2), .val (.int sv3), .val (.ref b2), .val (.int (1 : Int32))] [(.int (1 : Int32)), (.int (1 : Int32))])) t ∧ _
      refine own_go (fun _ => XS.icmpNo X87.here hx rfl (hb hby at_245) rfl (teq (by decide : (1 : Int32) = (1 : Int32))).2) ?_
      refine own_go (fun _ => XS.iconst X87.here hx rfl (hb hby at_248)) ?_
      refine own_go (fun _ => XS.goto X87.here hx rfl (pc0 := 249) (pc' := 253) rfl (hb hby at_249) (by decide) (by decide)) ?_
      refine own_go (fun _ => XS.istore X87.here hx rfl (hb hby at_253) rfl (l' := #[.val (.int xn), .val (.int xk), .val (.int xp), .val (.int xu), .val (.int xv), .val (.int ns), .val (.int (3 : Int32)), .val (.int (3 : Int32)), .val (.int ta1), .val (.int ta2), .val (.int ta3), .val (.int sv1), .val (.int sv2), .val (.int sv3), .val (.ref b2), .val (.int (1 : Int32))]) rfl) ?_
      refine own_go (fun _ => XS.iload X87.here hx rfl (hb hby at_255) rfl) ?_
      show ∃ t o, Steps p.tables e below (T87.setTop (mkF m 257 #[.val (.int xn), .val (.int xk), .val (.int xp), .val (.int xu), .val (.int xv), .val (.int ns), .val (.int (3 : Int32)), .val (.int (3 : Int32)), .val (.int ta1), .val (.int ta2), .val (.int ta3), .val (.int sv1), .val (.int sv2), .val (.int sv3), .val (.ref b2), .val (.int (1 : Int32))] [(.int (1 : Int32))])) t ∧ _
      obtain ⟨fs, hr, hrun, hended, hW, hsame⟩ := X87.leave (v := some (.int (1 : Int32))) (fun h => by rw [Bd.returns] at h; cases h)
      refine ⟨_, _, ?_, hrun, hended, _, _, rfl, ?_, ⟨_, rfl⟩, hW, hsame.mono (by decide) (by decide)⟩
      · exact retN X87 hx (t := .boolean) Bd.returns (by simp) (hb hby at_257) hr
      · show Q_rm0 Z _ _ _ _ _ h0 n0 _ T87.heap _
        rw [e87]
        exact ⟨rfl, N87, K83⟩
set_option maxRecDepth 65536 in
set_option maxHeartbeats 40000000 in
theorem comes_1 {Post : Tables → Env → Array Value → State → Outcome → State → Prop} (hpost : ∀ tb e args s v u, (limb_1_1.after args s (.returned v) u = true ∧ limb_1_2.after args s (.returned v) u = true ∧ True) → FrameEnd s (.returned v) u (Jvm.fieldLocs frame_1_writes args s ++ Jvm.arrayLocs frame_1_arrays args s ++ Jvm.staticLocs frame_1_statics s) 88 640 → Post tb e args s (.returned v) u) :
    ArmFor flags0 classFile x code maxLocals ret World_1 tables_1 room_1 Calls_1 rest_1 Pre_1 Post := by
  intro l hfl _ _ p e ha hc hk s m args below hf hA hF happ hP
  obtain ⟨hcalls, hrest, hpre⟩ := hP
  obtain ⟨-, -, -, hnamed, -, -, -, hat⟩ := (Spec.applies_iff hf).mp happ
  obtain ⟨hg, hn⟩ := and_e (Cond.before_iff.mp (show (Jvm.Cond.and given_1 narrow_1).before args s = true from hpre))
  obtain ⟨g1, g2⟩ := and_e hg
  obtain ⟨g3, g4⟩ := and_e g2
  obtain ⟨g5, g6⟩ := and_e g4
  obtain ⟨g7, g8⟩ := and_e g6
  obtain ⟨g9, g10⟩ := and_e g8
  obtain ⟨w0, w1, w2, w3, w4, rfl⟩ : ∃ w0 w1 w2 w3 w4 : Value, args = #[w0, w1, w2, w3, w4] := by
    have hs : args.size = 5 := by simpa [Cond.value, given_1] using g1
    obtain ⟨L⟩ := args
    match L, hs with
    | [w0, w1, w2, w3, w4], _ => exact ⟨w0, w1, w2, w3, w4, rfl⟩
  have hw := fun d (hd : d ∈ tables_1) => atoms_spec (ws := Jvm.Cond.code x code maxLocals ret :: tables_1) hat d (List.mem_cons_of_mem _ hd)
  have hfit : Fit s := fun {y c} hc i hi => by
    obtain ⟨ha, rfl⟩ := Array.getElem?_eq_some_iff.mp hc
    have q := List.all_eq_true.mp ((Array.all_eq_true_iff_forall_mem.mp hF) _ (Array.getElem_mem ha)) i (List.mem_range.mpr hi)
    simpa [Array.getElem?_eq_getElem hi] using q
  obtain ⟨i0, ei0⟩ := is_v g3
  obtain rfl : w0 = (.int i0) := Option.some.inj ei0
  obtain ⟨i1, ei1⟩ := is_v g5
  obtain rfl : w1 = (.int i1) := Option.some.inj ei1
  obtain ⟨i2, ei2⟩ := is_v g7
  obtain rfl : w2 = (.int i2) := Option.some.inj ei2
  obtain ⟨i3, ei3⟩ := is_v g9
  obtain rfl : w3 = (.int i3) := Option.some.inj ei3
  obtain ⟨i4, ei4⟩ := is_v g10
  obtain rfl : w4 = (.int i4) := Option.some.inj ei4
  have OLD := Old.start s
  obtain ⟨n, o, h1, h2, h3, _, L, rfl, ⟨rfl, N, -⟩, hq⟩ := rm0 l s _ hw tables_1 i0 i1 i2 i3 i4  s.heap s.heap.size (Nat.le_refl _) OLD p e ha hc hk s m _ below hf ((Spec.applies_iff_loose hf).mp happ).1 ⟨rfl, State.Warmed39.refl s, rfl⟩ trivial
  refine ⟨n, _, h1, h2, h3, hpost _ _ _ _ _ _ ⟨Cond.after_iff.mpr rfl, Cond.after_iff.mpr (eq_i res_at (Term.int_eval (1)) rfl), trivial⟩ ⟨hq.1, hq.2.1, (hq.2.2.sift fun y hy => Or.inr (N y hy)).mono (by decide) (by decide)⟩⟩
theorem main_1_1 : Claimed_1_1 := comes_1 fun _ _ _ _ _ _ h hF => ⟨h.1, hF⟩
theorem main_1_2 : Claimed_1_2 := comes_1 fun _ _ _ _ _ _ h hF => ⟨h.2.1, hF⟩
end Jvm.Pilot.@@N@@
namespace Jvm.Pilot.@@N@@
open Jvm Jvm.ClassFile Sem Op Lib Jvm.Free Jvm.Stand Jvm.Pilot.@@N@@.Jvm.D
/-! MADE BY PROGRAM (witnessworld.py) out of the Statement's table words and the real class files: 24 classes; the members and pool entries that the words name. The judged class is class 1, her method 1. -/
namespace start1
open Jvm.ClassFile
def u (s : String) : CpInfo := .utf8 (stringToUtf16 s)
/-- a pool by its gaps: so many unusable entries, then the entry; so many at the end -/
def gap : Nat → List CpInfo → List CpInfo
  | 0, r => r
  | n + 1, r => .unusable :: gap n r
def poolList (es : List (Nat × CpInfo)) (last : Nat) : List CpInfo := es.foldr (fun e r => gap e.1 (e.2 :: r)) (gap last [])
def pool (es : List (Nat × CpInfo)) (last : Nat) : Array CpInfo := ⟨poolList es last⟩
def fileOf (pool : Array CpInfo) (this : Nat) (attrs : Array Attribute := #[]) (ms : Array MethodInfo := #[]) (fl : Nat := 33) (sup : Nat := 0) (ifs : Array Nat := #[]) (fds : Array FieldInfo := #[]) : ClassFile where
  minorVersion := 0
  majorVersion := 65
  constantPool := pool
  accessFlags := fl
  thisClass := this
  superClass := sup
  interfaces := ifs
  fields := fds
  methods := ms
  attributes := attrs
def plain (name : String) (sup : Option ClassId) : Class where
  name := name
  kind := .ordinary
  loader := none
  accessFlags := 33
  super := sup
  interfaces := #[]
  cf := none
  fields := #[]
  methods := #[]
  instanceTypes := #[]
  staticTypes := #[]
  resolved := #[]
  callSites := []
  init := .initialized
  statics := none
  mirror := none

def pool0 : Array CpInfo := pool [(5, u "<init>"), (0, u "()V"), (1, .class_ 10), (1, u "java/lang/Object")] 113

def k0c0 : Code := { maxStack := 0, maxLocals := 1, code := object_method_1_code, exceptionTable := #[], attributes := #[] }
def k0m0 : Method := { name := "<init>", desc := "()V", sig := { parameters := [], returnType := none }, accessFlags := 1, code := some k0c0 }
/-- java/lang/Object -/
def k0 : Class := { plain "java/lang/Object" none with
  accessFlags := 33
  interfaces := #[]
  cf := some (fileOf pool0 8 #[] #[{ accessFlags := 1, nameIndex := 5, descriptorIndex := 6, attributes := #[] }] 33 0 #[] #[])
  fields := #[]
  methods := #[k0m0]
  instanceTypes := #[]
  staticTypes := #[]
  resolved := Array.replicate 124 none
  statics := none }

def pool1 : Array CpInfo := pool [(2, .class_ 4), (1, u "java/lang/Object"), (0, u "<init>"), (0, u "()V"), (0, .methodref 8 9), (0, .class_ 10), (0, .nameAndType 11 12), (0, u "java/lang/Math"), (0, u "min"), (0, u "(II)I"), (0, .class_ 14), (0, u "com/example/holdback/holdback/sim/EventQueue"), (0, .methodref 13 16), (0, .nameAndType 5 17), (0, u "(I)V"), (0, .methodref 13 19), (0, .nameAndType 20 21), (0, u "isEmpty"), (0, u "()Z"), (0, .methodref 13 23), (0, .nameAndType 24 25), (0, u "add"), (0, u "(IDLjava/lang/Runnable;)V"), (0, .methodref 13 27), (0, .nameAndType 28 29), (0, u "poll"), (0, u "()Ljava/lang/Runnable;"), (0, .class_ 31), (0, u "com/example/holdback/holdback/sim/EventQueueIsEmptyPinLaw"), (2, u "law"), (0, u "(IIIII)Z")] 3

def k1m0 : Method := { name := "<init>", desc := "()V", sig := { parameters := [], returnType := none }, accessFlags := 1, code := none }
def k1c1 : Code := { maxStack := 5, maxLocals := 16, code := code, exceptionTable := #[], attributes := #[] }
def k1m1 : Method := { name := "law", desc := "(IIIII)Z", sig := { parameters := [.int, .int, .int, .int, .int], returnType := some .boolean }, accessFlags := 9, code := some k1c1 }
/-- com/example/holdback/holdback/sim/EventQueueIsEmptyPinLaw -/
def k1 : Class := { plain "com/example/holdback/holdback/sim/EventQueueIsEmptyPinLaw" (some 0) with
  accessFlags := 49
  interfaces := #[]
  cf := some (fileOf pool1 30 #[] #[{ accessFlags := 1, nameIndex := 5, descriptorIndex := 6, attributes := #[] }, { accessFlags := 9, nameIndex := 34, descriptorIndex := 35, attributes := #[] }] 49 2 #[] #[])
  fields := #[]
  methods := #[k1m0, k1m1]
  instanceTypes := #[]
  staticTypes := #[]
  resolved := Array.replicate 39 none
  statics := none }

def pool2 : Array CpInfo := pool [(1, .class_ 2), (0, u "java/lang/Math"), (1, .class_ 6), (1, u "java/lang/Object"), (0, u "<init>"), (0, u "()V"), (89, .class_ 100), (1, u "java/lang/Math$RandomNumberGeneratorHolder"), (71, u "negativeZeroFloatBits"), (0, u "J"), (2, u "negativeZeroDoubleBits"), (21, u "max"), (2, u "min"), (43, u "$assertionsDisabled"), (0, u "Z"), (88, u "(II)I"), (2, u "twoToTheDoubleScaleDown"), (0, u "D"), (4, u "twoToTheDoubleScaleUp"), (9, u "E"), (3, u "PI"), (2, u "TAU"), (2, u "DEGREES_TO_RADIANS"), (0, u "RADIANS_TO_DEGREES")] 94

def k2m0 : Method := { name := "<init>", desc := "()V", sig := { parameters := [], returnType := none }, accessFlags := 2, code := none }
def k2c1 : Code := { maxStack := 2, maxLocals := 2, code := jdk_29_method_65_code, exceptionTable := #[], attributes := #[] }
def k2m1 : Method := { name := "max", desc := "(II)I", sig := { parameters := [.int, .int], returnType := some .int }, accessFlags := 9, code := some k2c1 }
def k2c2 : Code := { maxStack := 2, maxLocals := 2, code := jdk_29_method_69_code, exceptionTable := #[], attributes := #[] }
def k2m2 : Method := { name := "min", desc := "(II)I", sig := { parameters := [.int, .int], returnType := some .int }, accessFlags := 9, code := some k2c2 }
/-- java/lang/Math -/
def k2 : Class := { plain "java/lang/Math" (some 0) with
  accessFlags := 49
  interfaces := #[]
  cf := some (fileOf pool2 1 #[.nestMembers #[98]] #[{ accessFlags := 2, nameIndex := 7, descriptorIndex := 8, attributes := #[] }, { accessFlags := 9, nameIndex := 198, descriptorIndex := 335, attributes := #[] }, { accessFlags := 9, nameIndex := 201, descriptorIndex := 335, attributes := #[] }] 49 4 #[] #[{ accessFlags := 25, nameIndex := 354, descriptorIndex := 339, attributes := #[] }, { accessFlags := 25, nameIndex := 358, descriptorIndex := 339, attributes := #[] }, { accessFlags := 25, nameIndex := 361, descriptorIndex := 339, attributes := #[] }, { accessFlags := 26, nameIndex := 364, descriptorIndex := 339, attributes := #[] }, { accessFlags := 26, nameIndex := 365, descriptorIndex := 339, attributes := #[] }, { accessFlags := 26, nameIndex := 172, descriptorIndex := 173, attributes := #[] }, { accessFlags := 26, nameIndex := 176, descriptorIndex := 173, attributes := #[] }, { accessFlags := 8, nameIndex := 344, descriptorIndex := 339, attributes := #[] }, { accessFlags := 8, nameIndex := 338, descriptorIndex := 339, attributes := #[] }, { accessFlags := 4120, nameIndex := 245, descriptorIndex := 246, attributes := #[] }])
  fields := #[{ name := "E", type := .double, accessFlags := 25, slot := 0, constantValue := 0 }, { name := "PI", type := .double, accessFlags := 25, slot := 1, constantValue := 0 }, { name := "TAU", type := .double, accessFlags := 25, slot := 2, constantValue := 0 }, { name := "DEGREES_TO_RADIANS", type := .double, accessFlags := 26, slot := 3, constantValue := 0 }, { name := "RADIANS_TO_DEGREES", type := .double, accessFlags := 26, slot := 4, constantValue := 0 }, { name := "negativeZeroFloatBits", type := .long, accessFlags := 26, slot := 5, constantValue := 0 }, { name := "negativeZeroDoubleBits", type := .long, accessFlags := 26, slot := 6, constantValue := 0 }, { name := "twoToTheDoubleScaleUp", type := .double, accessFlags := 8, slot := 7, constantValue := 0 }, { name := "twoToTheDoubleScaleDown", type := .double, accessFlags := 8, slot := 8, constantValue := 0 }, { name := "$assertionsDisabled", type := .boolean, accessFlags := 4120, slot := 9, constantValue := 0 }]
  methods := #[k2m0, k2m1, k2m2]
  instanceTypes := #[]
  staticTypes := #[.double, .double, .double, .double, .double, .long, .long, .double, .double, .boolean]
  resolved := Array.replicate 460 none
  statics := none }

def pool3 : Array CpInfo := pool [(1, .methodref 2 3), (0, .class_ 4), (0, .nameAndType 5 6), (0, u "java/lang/Object"), (0, u "<init>"), (0, u "()V"), (0, .methodref 8 9), (0, .class_ 10), (0, .nameAndType 11 12), (0, u "java/lang/Math"), (0, u "max"), (0, u "(II)I"), (0, .methodref 14 15), (0, .class_ 16), (0, .nameAndType 17 18), (0, u "java/lang/Integer"), (0, u "highestOneBit"), (0, u "(I)I"), (0, .class_ 20), (0, u "com/example/holdback/holdback/sim/EventQueue$Stream"), (0, .fieldref 22 23), (0, .class_ 24), (0, .nameAndType 25 26), (0, u "com/example/holdback/holdback/sim/EventQueue"), (0, u "streams"), (0, u "[Lcom/example/holdback/holdback/sim/EventQueue$Stream;"), (0, .fieldref 22 28), (0, .nameAndType 29 30), (0, u "firstAt"), (0, u "[D"), (0, .fieldref 22 32), (0, .nameAndType 33 34), (0, u "firstPlace"), (0, u "[J"), (0, .fieldref 22 36), (0, .nameAndType 37 38), (0, u "winners"), (0, u "[I"), (0, .methodref 19 3), (0, .class_ 41), (0, u "java/lang/Double"), (0, .double 9218868437227405312), (3, .long 9223372036854775807), (1, .methodref 22 49), (0, .nameAndType 50 51), (0, u "play"), (0, u "(I)V"), (0, .fieldref 19 53), (0, .nameAndType 54 55), (0, u "lastAt"), (0, u "D"), (9, .fieldref 22 66), (0, .nameAndType 67 68), (0, u "scheduled"), (0, u "J"), (0, .methodref 19 70), (0, .nameAndType 71 72), (0, u "add"), (0, u "(DJLjava/lang/Runnable;)V"), (0, .fieldref 22 74), (0, .nameAndType 75 76), (0, u "size"), (0, u "I"), (0, .fieldref 19 74), (0, .methodref 22 79), (0, .nameAndType 80 81), (0, u "firstChanged"), (0, u "(IZ)V"), (0, .methodref 22 83), (0, .nameAndType 84 6), (0, u "requireEvent"), (0, .methodref 19 86), (0, .nameAndType 87 88), (0, u "removeFirst"), (0, u "()Ljava/lang/Runnable;"), (5, .fieldref 19 95), (0, .nameAndType 96 30), (0, u "moments"), (0, .fieldref 19 98), (0, .nameAndType 99 76), (0, u "first"), (0, .fieldref 19 101), (0, .nameAndType 102 34), (0, u "places"), (0, .methodref 40 104), (0, .nameAndType 105 106), (0, u "compare"), (0, u "(DD)I"), (3, u "(IDLjava/lang/Runnable;)V"), (1, u "isEmpty"), (0, u "()Z"), (2, u "poll")] 20

def k3c0 : Code := { maxStack := 4, maxLocals := 4, code := prog_164_method_1_code, exceptionTable := #[], attributes := #[] }
def k3m0 : Method := { name := "<init>", desc := "(I)V", sig := { parameters := [.int], returnType := none }, accessFlags := 0, code := some k3c0 }
def k3c1 : Code := { maxStack := 10, maxLocals := 6, code := prog_164_method_2_code, exceptionTable := #[], attributes := #[] }
def k3m1 : Method := { name := "add", desc := "(IDLjava/lang/Runnable;)V", sig := { parameters := [.int, .double, (.object "java/lang/Runnable")], returnType := none }, accessFlags := 0, code := some k3c1 }
def k3c2 : Code := { maxStack := 1, maxLocals := 1, code := prog_164_method_4_code, exceptionTable := #[], attributes := #[] }
def k3m2 : Method := { name := "isEmpty", desc := "()Z", sig := { parameters := [], returnType := some .boolean }, accessFlags := 0, code := some k3c2 }
def k3c3 : Code := { maxStack := 3, maxLocals := 3, code := prog_164_method_6_code, exceptionTable := #[], attributes := #[] }
def k3m3 : Method := { name := "poll", desc := "()Ljava/lang/Runnable;", sig := { parameters := [], returnType := some (.object "java/lang/Runnable") }, accessFlags := 0, code := some k3c3 }
def k3c4 : Code := { maxStack := 3, maxLocals := 1, code := prog_164_method_7_code, exceptionTable := #[], attributes := #[] }
def k3m4 : Method := { name := "requireEvent", desc := "()V", sig := { parameters := [], returnType := none }, accessFlags := 2, code := some k3c4 }
def k3c5 : Code := { maxStack := 4, maxLocals := 5, code := prog_164_method_8_code, exceptionTable := #[], attributes := #[] }
def k3m5 : Method := { name := "firstChanged", desc := "(IZ)V", sig := { parameters := [.int, .boolean], returnType := none }, accessFlags := 2, code := some k3c5 }
def k3c6 : Code := { maxStack := 4, maxLocals := 6, code := prog_164_method_9_code, exceptionTable := #[], attributes := #[] }
def k3m6 : Method := { name := "play", desc := "(I)V", sig := { parameters := [.int], returnType := none }, accessFlags := 2, code := some k3c6 }
/-- com/example/holdback/holdback/sim/EventQueue -/
def k3 : Class := { plain "com/example/holdback/holdback/sim/EventQueue" (some 0) with
  accessFlags := 48
  interfaces := #[]
  cf := some (fileOf pool3 22 #[.nestMembers #[19]] #[{ accessFlags := 0, nameIndex := 5, descriptorIndex := 51, attributes := #[] }, { accessFlags := 0, nameIndex := 71, descriptorIndex := 110, attributes := #[] }, { accessFlags := 0, nameIndex := 112, descriptorIndex := 113, attributes := #[] }, { accessFlags := 0, nameIndex := 116, descriptorIndex := 88, attributes := #[] }, { accessFlags := 2, nameIndex := 84, descriptorIndex := 6, attributes := #[] }, { accessFlags := 2, nameIndex := 80, descriptorIndex := 81, attributes := #[] }, { accessFlags := 2, nameIndex := 50, descriptorIndex := 51, attributes := #[] }] 48 2 #[] #[{ accessFlags := 18, nameIndex := 25, descriptorIndex := 26, attributes := #[] }, { accessFlags := 18, nameIndex := 29, descriptorIndex := 30, attributes := #[] }, { accessFlags := 18, nameIndex := 33, descriptorIndex := 34, attributes := #[] }, { accessFlags := 18, nameIndex := 37, descriptorIndex := 38, attributes := #[] }, { accessFlags := 2, nameIndex := 75, descriptorIndex := 76, attributes := #[] }, { accessFlags := 2, nameIndex := 67, descriptorIndex := 68, attributes := #[] }])
  fields := #[{ name := "streams", type := (.array (.object "com/example/holdback/holdback/sim/EventQueue$Stream")), accessFlags := 18, slot := 0, constantValue := 0 }, { name := "firstAt", type := (.array .double), accessFlags := 18, slot := 1, constantValue := 0 }, { name := "firstPlace", type := (.array .long), accessFlags := 18, slot := 2, constantValue := 0 }, { name := "winners", type := (.array .int), accessFlags := 18, slot := 3, constantValue := 0 }, { name := "size", type := .int, accessFlags := 2, slot := 4, constantValue := 0 }, { name := "scheduled", type := .long, accessFlags := 2, slot := 5, constantValue := 0 }]
  methods := #[k3m0, k3m1, k3m2, k3m3, k3m4, k3m5, k3m6]
  instanceTypes := #[(.array (.object "com/example/holdback/holdback/sim/EventQueue$Stream")), (.array .double), (.array .long), (.array .int), .int, .long]
  staticTypes := #[]
  resolved := ((((((((Array.replicate 137 none : Array (Option Resolved)).set! 19 (some (.cls 10))).set! 39 (some (.method ⟨10, 0⟩))).set! 52 (some (.field 10 5))).set! 77 (some (.field 10 4))).set! 94 (some (.field 10 0))).set! 97 (some (.field 10 3))).set! 100 (some (.field 10 1)))
  statics := none }

def pool4 : Array CpInfo := pool [(1, .class_ 2), (0, u "java/io/Serializable"), (0, .class_ 4), (0, u "java/lang/Object")] 2

/-- java/io/Serializable -/
def k4 : Class := { plain "java/io/Serializable" (some 0) with
  accessFlags := 1537
  interfaces := #[]
  cf := some (fileOf pool4 1 #[] #[] 1537 3 #[] #[])
  fields := #[]
  methods := #[]
  instanceTypes := #[]
  staticTypes := #[]
  resolved := Array.replicate 7 none
  statics := none }

def pool5 : Array CpInfo := pool [(2, .class_ 4), (1, u "java/lang/Object"), (0, u "<init>"), (0, u "()V"), (1, .class_ 10), (1, u "java/lang/Number"), (2, .class_ 14), (0, u "java/io/Serializable"), (0, u "serialVersionUID"), (0, u "J")] 20

def k5m0 : Method := { name := "<init>", desc := "()V", sig := { parameters := [], returnType := none }, accessFlags := 1, code := none }
/-- java/lang/Number -/
def k5 : Class := { plain "java/lang/Number" (some 0) with
  accessFlags := 1057
  interfaces := #[4]
  cf := some (fileOf pool5 8 #[] #[{ accessFlags := 1, nameIndex := 5, descriptorIndex := 6, attributes := #[] }] 1057 2 #[13] #[{ accessFlags := 26, nameIndex := 15, descriptorIndex := 16, attributes := #[] }])
  fields := #[{ name := "serialVersionUID", type := .long, accessFlags := 26, slot := 0, constantValue := 0 }]
  methods := #[k5m0]
  instanceTypes := #[]
  staticTypes := #[.long]
  resolved := Array.replicate 37 none
  statics := none }

def pool6 : Array CpInfo := pool [(1, .class_ 2), (0, u "java/lang/Comparable"), (0, .class_ 4), (0, u "java/lang/Object")] 7

/-- java/lang/Comparable -/
def k6 : Class := { plain "java/lang/Comparable" (some 0) with
  accessFlags := 1537
  interfaces := #[]
  cf := some (fileOf pool6 1 #[] #[] 1537 3 #[] #[])
  fields := #[]
  methods := #[]
  instanceTypes := #[]
  staticTypes := #[]
  resolved := Array.replicate 12 none
  statics := none }

def pool7 : Array CpInfo := pool [(1, .class_ 2), (0, u "java/lang/constant/Constable"), (0, .class_ 4), (0, u "java/lang/Object")] 6

/-- java/lang/constant/Constable -/
def k7 : Class := { plain "java/lang/constant/Constable" (some 0) with
  accessFlags := 1537
  interfaces := #[]
  cf := some (fileOf pool7 1 #[] #[] 1537 3 #[] #[])
  fields := #[]
  methods := #[]
  instanceTypes := #[]
  staticTypes := #[]
  resolved := Array.replicate 11 none
  statics := none }

def pool8 : Array CpInfo := pool [(1, .class_ 2), (0, u "java/lang/constant/ConstantDesc"), (0, .class_ 4), (0, u "java/lang/Object")] 32

/-- java/lang/constant/ConstantDesc -/
def k8 : Class := { plain "java/lang/constant/ConstantDesc" (some 0) with
  accessFlags := 1537
  interfaces := #[]
  cf := some (fileOf pool8 1 #[] #[] 1537 3 #[] #[])
  fields := #[]
  methods := #[]
  instanceTypes := #[]
  staticTypes := #[]
  resolved := Array.replicate 37 none
  statics := none }

def pool9 : Array CpInfo := pool [(1, .class_ 2), (0, u "java/lang/Integer"), (16, u "digits"), (0, u "[C"), (30, .methodref 1 52), (0, .nameAndType 53 54), (0, u "numberOfLeadingZeros"), (0, u "(I)I"), (30, u "DigitOnes"), (0, u "[B"), (2, u "DigitTens"), (37, .integer 2147483648), (61, .class_ 190), (0, u "java/lang/Integer$IntegerCache"), (3, u "I"), (8, .class_ 204), (0, u "java/lang/Number"), (2, u "value"), (56, .integer 65536), (37, u "TYPE"), (0, u "Ljava/lang/Class;"), (0, .class_ 305), (0, u "java/lang/Comparable"), (0, .class_ 307), (0, u "java/lang/constant/Constable"), (0, .class_ 309), (0, u "java/lang/constant/ConstantDesc"), (0, u "MIN_VALUE"), (1, u "MAX_VALUE"), (3, u "SIZE"), (1, u "BYTES"), (1, u "serialVersionUID"), (0, u "J"), (81, u "highestOneBit")] 49

def k9c0 : Code := { maxStack := 3, maxLocals := 1, code := jdk_33_method_45_code, exceptionTable := #[], attributes := #[] }
def k9m0 : Method := { name := "highestOneBit", desc := "(I)I", sig := { parameters := [.int], returnType := some .int }, accessFlags := 9, code := some k9c0 }
def k9c1 : Code := { maxStack := 3, maxLocals := 2, code := jdk_33_method_47_code, exceptionTable := #[], attributes := #[] }
def k9m1 : Method := { name := "numberOfLeadingZeros", desc := "(I)I", sig := { parameters := [.int], returnType := some .int }, accessFlags := 9, code := some k9c1 }
/-- java/lang/Integer -/
def k9 : Class := { plain "java/lang/Integer" (some 5) with
  accessFlags := 49
  interfaces := #[6, 7, 8]
  cf := some (fileOf pool9 1 #[.nestMembers #[189]] #[{ accessFlags := 9, nameIndex := 403, descriptorIndex := 54, attributes := #[] }, { accessFlags := 9, nameIndex := 53, descriptorIndex := 54, attributes := #[] }] 49 203 #[304, 306, 308] #[{ accessFlags := 25, nameIndex := 310, descriptorIndex := 194, attributes := #[] }, { accessFlags := 25, nameIndex := 312, descriptorIndex := 194, attributes := #[] }, { accessFlags := 25, nameIndex := 302, descriptorIndex := 303, attributes := #[] }, { accessFlags := 24, nameIndex := 19, descriptorIndex := 20, attributes := #[] }, { accessFlags := 24, nameIndex := 89, descriptorIndex := 86, attributes := #[] }, { accessFlags := 24, nameIndex := 85, descriptorIndex := 86, attributes := #[] }, { accessFlags := 18, nameIndex := 207, descriptorIndex := 194, attributes := #[] }, { accessFlags := 25, nameIndex := 316, descriptorIndex := 194, attributes := #[] }, { accessFlags := 25, nameIndex := 318, descriptorIndex := 194, attributes := #[] }, { accessFlags := 26, nameIndex := 320, descriptorIndex := 321, attributes := #[] }])
  fields := #[{ name := "MIN_VALUE", type := .int, accessFlags := 25, slot := 0, constantValue := 0 }, { name := "MAX_VALUE", type := .int, accessFlags := 25, slot := 1, constantValue := 0 }, { name := "TYPE", type := (.object "java/lang/Class"), accessFlags := 25, slot := 2, constantValue := 0 }, { name := "digits", type := (.array .char), accessFlags := 24, slot := 3, constantValue := 0 }, { name := "DigitTens", type := (.array .byte), accessFlags := 24, slot := 4, constantValue := 0 }, { name := "DigitOnes", type := (.array .byte), accessFlags := 24, slot := 5, constantValue := 0 }, { name := "value", type := .int, accessFlags := 18, slot := 0, constantValue := 0 }, { name := "SIZE", type := .int, accessFlags := 25, slot := 6, constantValue := 0 }, { name := "BYTES", type := .int, accessFlags := 25, slot := 7, constantValue := 0 }, { name := "serialVersionUID", type := .long, accessFlags := 26, slot := 8, constantValue := 0 }]
  methods := #[k9m0, k9m1]
  instanceTypes := #[.int]
  staticTypes := #[.int, .int, (.object "java/lang/Class"), (.array .char), (.array .byte), (.array .byte), .int, .int, .long]
  resolved := Array.replicate 453 none
  statics := none }

def pool10 : Array CpInfo := pool [(1, .methodref 2 3), (0, .class_ 4), (0, .nameAndType 5 6), (0, u "java/lang/Object"), (0, u "<init>"), (0, u "()V"), (0, .fieldref 8 9), (0, .class_ 10), (0, .nameAndType 11 12), (0, u "com/example/holdback/holdback/sim/EventQueue$Stream"), (0, u "moments"), (0, u "[D"), (0, .fieldref 8 14), (0, .nameAndType 15 16), (0, u "places"), (0, u "[J"), (0, .class_ 18), (0, u "java/lang/Runnable"), (0, .fieldref 8 20), (0, .nameAndType 21 22), (0, u "actions"), (0, u "[Ljava/lang/Runnable;"), (0, .fieldref 8 24), (0, .nameAndType 25 26), (0, u "size"), (0, u "I"), (3, .fieldref 8 31), (0, .nameAndType 32 26), (0, u "first"), (0, .fieldref 8 34), (0, .nameAndType 35 36), (0, u "lastAt"), (0, u "D"), (11, u "add"), (0, u "(DJLjava/lang/Runnable;)V"), (1, u "removeFirst"), (0, u "()Ljava/lang/Runnable;"), (3, .class_ 57), (0, u "com/example/holdback/holdback/sim/EventQueue")] 2

def k10c0 : Code := { maxStack := 2, maxLocals := 1, code := prog_165_method_1_code, exceptionTable := #[], attributes := #[] }
def k10m0 : Method := { name := "<init>", desc := "()V", sig := { parameters := [], returnType := none }, accessFlags := 2, code := some k10c0 }
def k10c1 : Code := { maxStack := 4, maxLocals := 7, code := prog_165_method_2_code, exceptionTable := #[], attributes := #[] }
def k10m1 : Method := { name := "add", desc := "(DJLjava/lang/Runnable;)V", sig := { parameters := [.double, .long, (.object "java/lang/Runnable")], returnType := none }, accessFlags := 0, code := some k10c1 }
def k10c2 : Code := { maxStack := 4, maxLocals := 3, code := prog_165_method_3_code, exceptionTable := #[], attributes := #[] }
def k10m2 : Method := { name := "removeFirst", desc := "()Ljava/lang/Runnable;", sig := { parameters := [], returnType := some (.object "java/lang/Runnable") }, accessFlags := 0, code := some k10c2 }
/-- com/example/holdback/holdback/sim/EventQueue$Stream -/
def k10 : Class := { plain "com/example/holdback/holdback/sim/EventQueue$Stream" (some 0) with
  accessFlags := 48
  interfaces := #[]
  cf := some (fileOf pool10 8 #[.nestHost 56] #[{ accessFlags := 2, nameIndex := 5, descriptorIndex := 6, attributes := #[] }, { accessFlags := 0, nameIndex := 48, descriptorIndex := 49, attributes := #[] }, { accessFlags := 0, nameIndex := 51, descriptorIndex := 52, attributes := #[] }] 48 2 #[] #[{ accessFlags := 2, nameIndex := 11, descriptorIndex := 12, attributes := #[] }, { accessFlags := 2, nameIndex := 15, descriptorIndex := 16, attributes := #[] }, { accessFlags := 2, nameIndex := 21, descriptorIndex := 22, attributes := #[] }, { accessFlags := 2, nameIndex := 32, descriptorIndex := 26, attributes := #[] }, { accessFlags := 2, nameIndex := 25, descriptorIndex := 26, attributes := #[] }, { accessFlags := 2, nameIndex := 35, descriptorIndex := 36, attributes := #[] }])
  fields := #[{ name := "moments", type := (.array .double), accessFlags := 2, slot := 0, constantValue := 0 }, { name := "places", type := (.array .long), accessFlags := 2, slot := 1, constantValue := 0 }, { name := "actions", type := (.array (.object "java/lang/Runnable")), accessFlags := 2, slot := 2, constantValue := 0 }, { name := "first", type := .int, accessFlags := 2, slot := 3, constantValue := 0 }, { name := "size", type := .int, accessFlags := 2, slot := 4, constantValue := 0 }, { name := "lastAt", type := .double, accessFlags := 2, slot := 5, constantValue := 0 }]
  methods := #[k10m0, k10m1, k10m2]
  instanceTypes := #[(.array .double), (.array .long), (.array (.object "java/lang/Runnable")), .int, .int, .double]
  staticTypes := #[]
  resolved := Array.replicate 60 none
  statics := none }

def pool11 : Array CpInfo := pool [(1, .class_ 2), (0, u "java/lang/Runnable"), (0, .class_ 4), (0, u "java/lang/Object")] 6

/-- java/lang/Runnable -/
def k11 : Class := { plain "java/lang/Runnable" (some 0) with
  accessFlags := 1537
  interfaces := #[]
  cf := some (fileOf pool11 1 #[] #[] 1537 3 #[] #[])
  fields := #[]
  methods := #[]
  instanceTypes := #[]
  staticTypes := #[]
  resolved := Array.replicate 11 none
  statics := none }

def pool12 : Array CpInfo := pool [(1, .class_ 2), (0, u "java/lang/Double"), (11, u "(D)Z"), (31, .methodref 1 47), (0, .nameAndType 48 49), (0, u "doubleToLongBits"), (0, u "(D)J"), (64, .class_ 116), (1, u "java/lang/Number"), (3, u "value"), (0, u "D"), (0, .methodref 1 123), (0, .nameAndType 124 14), (0, u "isNaN"), (9, .methodref 1 135), (0, .nameAndType 136 49), (0, u "doubleToRawLongBits"), (4, u "compare"), (0, u "(DD)I"), (30, u "TYPE"), (0, u "Ljava/lang/Class;"), (0, .class_ 176), (0, u "java/lang/Comparable"), (0, .class_ 178), (0, u "java/lang/constant/Constable"), (0, .class_ 180), (0, u "java/lang/constant/ConstantDesc"), (0, u "POSITIVE_INFINITY"), (3, u "NEGATIVE_INFINITY"), (2, u "NaN"), (2, u "MAX_VALUE"), (0, u "MIN_NORMAL"), (0, u "MIN_VALUE"), (2, u "SIZE"), (0, u "I"), (1, u "PRECISION"), (1, u "MAX_EXPONENT"), (1, u "MIN_EXPONENT"), (1, u "BYTES"), (3, u "serialVersionUID"), (0, u "J")] 79

def k12c0 : Code := { maxStack := 4, maxLocals := 2, code := jdk_117_method_6_code, exceptionTable := #[], attributes := #[] }
def k12m0 : Method := { name := "isNaN", desc := "(D)Z", sig := { parameters := [.double], returnType := some .boolean }, accessFlags := 9, code := some k12c0 }
def k12c1 : Code := { maxStack := 2, maxLocals := 2, code := jdk_117_method_23_code, exceptionTable := #[], attributes := #[] }
def k12m1 : Method := { name := "doubleToLongBits", desc := "(D)J", sig := { parameters := [.double], returnType := some .long }, accessFlags := 9, code := some k12c1 }
def k12m2 : Method := { name := "doubleToRawLongBits", desc := "(D)J", sig := { parameters := [.double], returnType := some .long }, accessFlags := 265, code := none }
def k12c3 : Code := { maxStack := 4, maxLocals := 8, code := jdk_117_method_27_code, exceptionTable := #[], attributes := #[] }
def k12m3 : Method := { name := "compare", desc := "(DD)I", sig := { parameters := [.double, .double], returnType := some .int }, accessFlags := 9, code := some k12c3 }
/-- java/lang/Double -/
def k12 : Class := { plain "java/lang/Double" (some 5) with
  accessFlags := 49
  interfaces := #[6, 7, 8]
  cf := some (fileOf pool12 1 #[] #[{ accessFlags := 9, nameIndex := 124, descriptorIndex := 14, attributes := #[] }, { accessFlags := 9, nameIndex := 48, descriptorIndex := 49, attributes := #[] }, { accessFlags := 265, nameIndex := 136, descriptorIndex := 49, attributes := #[] }, { accessFlags := 9, nameIndex := 141, descriptorIndex := 142, attributes := #[] }] 49 114 #[175, 177, 179] #[{ accessFlags := 25, nameIndex := 181, descriptorIndex := 121, attributes := #[] }, { accessFlags := 25, nameIndex := 185, descriptorIndex := 121, attributes := #[] }, { accessFlags := 25, nameIndex := 188, descriptorIndex := 121, attributes := #[] }, { accessFlags := 25, nameIndex := 191, descriptorIndex := 121, attributes := #[] }, { accessFlags := 25, nameIndex := 192, descriptorIndex := 121, attributes := #[] }, { accessFlags := 25, nameIndex := 193, descriptorIndex := 121, attributes := #[] }, { accessFlags := 25, nameIndex := 196, descriptorIndex := 197, attributes := #[] }, { accessFlags := 25, nameIndex := 199, descriptorIndex := 197, attributes := #[] }, { accessFlags := 25, nameIndex := 201, descriptorIndex := 197, attributes := #[] }, { accessFlags := 25, nameIndex := 203, descriptorIndex := 197, attributes := #[] }, { accessFlags := 25, nameIndex := 205, descriptorIndex := 197, attributes := #[] }, { accessFlags := 25, nameIndex := 173, descriptorIndex := 174, attributes := #[] }, { accessFlags := 18, nameIndex := 120, descriptorIndex := 121, attributes := #[] }, { accessFlags := 26, nameIndex := 209, descriptorIndex := 210, attributes := #[] }])
  fields := #[{ name := "POSITIVE_INFINITY", type := .double, accessFlags := 25, slot := 0, constantValue := 0 }, { name := "NEGATIVE_INFINITY", type := .double, accessFlags := 25, slot := 1, constantValue := 0 }, { name := "NaN", type := .double, accessFlags := 25, slot := 2, constantValue := 0 }, { name := "MAX_VALUE", type := .double, accessFlags := 25, slot := 3, constantValue := 0 }, { name := "MIN_NORMAL", type := .double, accessFlags := 25, slot := 4, constantValue := 0 }, { name := "MIN_VALUE", type := .double, accessFlags := 25, slot := 5, constantValue := 0 }, { name := "SIZE", type := .int, accessFlags := 25, slot := 6, constantValue := 0 }, { name := "PRECISION", type := .int, accessFlags := 25, slot := 7, constantValue := 0 }, { name := "MAX_EXPONENT", type := .int, accessFlags := 25, slot := 8, constantValue := 0 }, { name := "MIN_EXPONENT", type := .int, accessFlags := 25, slot := 9, constantValue := 0 }, { name := "BYTES", type := .int, accessFlags := 25, slot := 10, constantValue := 0 }, { name := "TYPE", type := (.object "java/lang/Class"), accessFlags := 25, slot := 11, constantValue := 0 }, { name := "value", type := .double, accessFlags := 18, slot := 0, constantValue := 0 }, { name := "serialVersionUID", type := .long, accessFlags := 26, slot := 12, constantValue := 0 }]
  methods := #[k12m0, k12m1, k12m2, k12m3]
  instanceTypes := #[.double]
  staticTypes := #[.double, .double, .double, .double, .double, .double, .int, .int, .int, .int, .int, (.object "java/lang/Class"), .long]
  resolved := Array.replicate 290 none
  statics := none }

def pool13 : Array CpInfo := pool [(1, u "java/lang/Cloneable"), (0, .class_ 1), (0, u "java/lang/Object"), (0, .class_ 3)] 3

/-- java/lang/Cloneable -/
def k13 : Class := { plain "java/lang/Cloneable" (some 0) with
  accessFlags := 1537
  interfaces := #[]
  cf := some (fileOf pool13 2 #[] #[] 1537 4 #[] #[])
  fields := #[]
  methods := #[]
  instanceTypes := #[]
  staticTypes := #[]
  resolved := Array.replicate 8 none
  statics := none }

/-- the primitive byte -/
def k14 : Class := { plain "byte" none with kind := .primitive 'B', accessFlags := 0x411 }
/-- [B -/
def k15 : Class := { plain "[B" (some 0) with kind := .array 14 .byte, interfaces := #[13, 4], accessFlags := 1041 }

/-- the primitive double -/
def k16 : Class := { plain "double" none with kind := .primitive 'D', accessFlags := 0x411 }
/-- [D -/
def k17 : Class := { plain "[D" (some 0) with kind := .array 16 .double, interfaces := #[13, 4], accessFlags := 1041 }

/-- the primitive int -/
def k18 : Class := { plain "int" none with kind := .primitive 'I', accessFlags := 0x411 }
/-- [I -/
def k19 : Class := { plain "[I" (some 0) with kind := .array 18 .int, interfaces := #[13, 4], accessFlags := 1041 }

/-- the primitive long -/
def k20 : Class := { plain "long" none with kind := .primitive 'J', accessFlags := 0x411 }
/-- [J -/
def k21 : Class := { plain "[J" (some 0) with kind := .array 20 .long, interfaces := #[13, 4], accessFlags := 1041 }

/-- [Lcom/example/holdback/holdback/sim/EventQueue$Stream; -/
def k22 : Class := { plain "[Lcom/example/holdback/holdback/sim/EventQueue$Stream;" (some 0) with kind := .array 10 (.object "com/example/holdback/holdback/sim/EventQueue$Stream"), interfaces := #[13, 4], accessFlags := 1041 }

/-- [Ljava/lang/Runnable; -/
def k23 : Class := { plain "[Ljava/lang/Runnable;" (some 0) with kind := .array 11 (.object "java/lang/Runnable"), interfaces := #[13, 4], accessFlags := 1041 }

def heap : Heap := #[]
def classes : Array Class := #[k0, k1, k2, k3, k4, k5, k6, k7, k8, k9, k10, k11, k12, k13, k14, k15, k16, k17, k18, k19, k20, k21, k22, k23]
def interned : List (Array UInt16 × Addr) := []
def slotsUsed : Nat := 0
def theMethod : MethodId := ⟨1, 1⟩
def args0 : Array Value := #[.int 5, .int 7, .int 6, .int 9, .int 11]
def aboutOver (below : List Frame) : State where
  vm := { classes := classes, interned := interned.toArray }
  heap := heap
  slotsUsed := slotsUsed
  threads := #[{ frames := .invoking theMethod args0 :: below }]
def below0 : List Frame := [.native { method := ⟨0, 0⟩, args := #[] }]
def about1 : State := aboutOver below0
def p0 : Program := .bare "" "" ""
def e0 : Env := launch0.env 0 0 0
theorem w_frames : about1.frames = Frame.invoking theMethod args0 :: below0 := rfl
set_option maxRecDepth 65536 in
theorem w_args : argsFit about1.vm theMethod args0 = true := by decide +kernel
set_option maxRecDepth 65536 in
theorem w_heap : heapFits about1 = true := by decide +kernel
set_option maxRecDepth 65536 in
theorem w_runnable : about1.curStatus? = some .runnable := by decide +kernel
set_option maxRecDepth 65536 in
theorem w_alone : about1.alone = true := by decide +kernel
set_option maxRecDepth 65536 in
theorem w_named : about1.methodNamed? x = some theMethod := by decide +kernel
set_option maxRecDepth 65536 in
theorem w_hears : about1.hears theMethod below0 = true := by decide +kernel
set_option maxRecDepth 65536 in
theorem w_ripe : about1.ripe theMethod args0 below0 = true := by decide +kernel
theorem w_running : about1.status = .running := rfl
set_option maxRecDepth 65536 in
theorem w_room : about1.hasRoom e0.platform room_1 = true :=
  launch0.hasRoom_least _ room_1 (by decide +kernel) (by decide +kernel) (by decide +kernel) (by decide +kernel) (by decide +kernel) (by decide +kernel)
theorem allAtoms_all (ts : List Jvm.Cond) (a : Array Jvm.Value) (st : Jvm.State) : (allAtoms ts).before a st = ts.all (fun c => c.before a st) := by
  induction ts with
  | nil => rfl
  | cons c t ih =>
    show (Jvm.Cond.and c (allAtoms t)).before a st = _
    rw [Jvm.Cond.before_and, ih, List.all_cons]
def words1 : List Jvm.Cond := Jvm.Cond.code x code maxLocals ret :: tables_1
/-- a 'code' word, met by the world's own term for the bytes: nothing is compared byte by byte -/
theorem code_word {y : MethodName} {bytes : ByteArray} {mx : Nat} {rt : Option FieldType} {a : Array Value} {s : State} {m : MethodId} {meth : Method} {c : Code} (h1 : s.methodNamed? y = some m) (h2 : s.vm.method? m = some meth) (h3 : meth.code = some c) (h4 : c.code = bytes)
    (h5 : (c.maxLocals == mx && c.exceptionTable.isEmpty && decide (c.maxStack ≤ mostOperands) && decide (meth.sig.returnType = rt) && !meth.locks && decide (parseMethodDescriptor y.desc = some meth.sig)) = true) : (Jvm.Cond.code y bytes mx rt).before a s = true := by
  simp only [Bool.and_eq_true, beq_iff_eq, Bool.not_eq_true', decide_eq_true_eq] at h5
  obtain ⟨⟨⟨⟨⟨g1, g2⟩, g3⟩, g4⟩, g5⟩, g6⟩ := h5
  simp [Cond.before, Cond.holds, Cond.value, h1, h2, h3, h4, g1, g2, g3, g4, g5, g6]
def isCode : Jvm.Cond → Bool
  | .code _ _ _ _ => true
  | _ => false
theorem all_split {L : List Jvm.Cond} {P : Jvm.Cond → Bool} (h1 : L.all (fun c => isCode c || P c) = true) (h2 : ∀ c ∈ L.filter isCode, P c = true) : L.all P = true := by
  refine List.all_eq_true.mpr fun c hc => ?_
  have h := List.all_eq_true.mp h1 c hc
  rcases Bool.eq_false_or_eq_true (isCode c) with hi | hi
  · exact h2 c (List.mem_filter.mpr ⟨hc, hi⟩)
  · simpa [hi] using h
set_option maxRecDepth 65536 in
theorem w_c0 : (Jvm.Cond.code x code maxLocals ret).before args0 about1 = true := code_word (m := ⟨1, 1⟩) (meth := k1m1) (c := k1c1) (by decide +kernel) rfl rfl rfl (by decide +kernel)
set_option maxRecDepth 65536 in
theorem w_c1 : (Jvm.Cond.code ({ cls := "java/lang/Math", name := "min", desc := "(II)I" } : Jvm.MethodName) jdk_29_method_69_code (2 : Nat) (Option.some Jvm.ClassFile.FieldType.int)).before args0 about1 = true := code_word (m := ⟨2, 2⟩) (meth := k2m2) (c := k2c2) (by decide +kernel) rfl rfl rfl (by decide +kernel)
set_option maxRecDepth 65536 in
theorem w_c2 : (Jvm.Cond.code ({ cls := "com/example/holdback/holdback/sim/EventQueue", name := "<init>", desc := "(I)V" } : Jvm.MethodName) prog_164_method_1_code (4 : Nat) (Option.none : Option Jvm.ClassFile.FieldType)).before args0 about1 = true := code_word (m := ⟨3, 0⟩) (meth := k3m0) (c := k3c0) (by decide +kernel) rfl rfl rfl (by decide +kernel)
set_option maxRecDepth 65536 in
theorem w_c3 : (Jvm.Cond.code ({ cls := "java/lang/Object", name := "<init>", desc := "()V" } : Jvm.MethodName) object_method_1_code (1 : Nat) (Option.none : Option Jvm.ClassFile.FieldType)).before args0 about1 = true := code_word (m := ⟨0, 0⟩) (meth := k0m0) (c := k0c0) (by decide +kernel) rfl rfl rfl (by decide +kernel)
set_option maxRecDepth 65536 in
theorem w_c4 : (Jvm.Cond.code ({ cls := "java/lang/Math", name := "max", desc := "(II)I" } : Jvm.MethodName) jdk_29_method_65_code (2 : Nat) (Option.some Jvm.ClassFile.FieldType.int)).before args0 about1 = true := code_word (m := ⟨2, 1⟩) (meth := k2m1) (c := k2c1) (by decide +kernel) rfl rfl rfl (by decide +kernel)
set_option maxRecDepth 65536 in
theorem w_c5 : (Jvm.Cond.code ({ cls := "java/lang/Integer", name := "highestOneBit", desc := "(I)I" } : Jvm.MethodName) jdk_33_method_45_code (1 : Nat) (Option.some Jvm.ClassFile.FieldType.int)).before args0 about1 = true := code_word (m := ⟨9, 0⟩) (meth := k9m0) (c := k9c0) (by decide +kernel) rfl rfl rfl (by decide +kernel)
set_option maxRecDepth 65536 in
theorem w_c6 : (Jvm.Cond.code ({ cls := "java/lang/Integer", name := "numberOfLeadingZeros", desc := "(I)I" } : Jvm.MethodName) jdk_33_method_47_code (2 : Nat) (Option.some Jvm.ClassFile.FieldType.int)).before args0 about1 = true := code_word (m := ⟨9, 1⟩) (meth := k9m1) (c := k9c1) (by decide +kernel) rfl rfl rfl (by decide +kernel)
set_option maxRecDepth 65536 in
theorem w_c7 : (Jvm.Cond.code ({ cls := "com/example/holdback/holdback/sim/EventQueue$Stream", name := "<init>", desc := "()V" } : Jvm.MethodName) prog_165_method_1_code (1 : Nat) (Option.none : Option Jvm.ClassFile.FieldType)).before args0 about1 = true := code_word (m := ⟨10, 0⟩) (meth := k10m0) (c := k10c0) (by decide +kernel) rfl rfl rfl (by decide +kernel)
set_option maxRecDepth 65536 in
theorem w_c8 : (Jvm.Cond.code ({ cls := "com/example/holdback/holdback/sim/EventQueue", name := "play", desc := "(I)V" } : Jvm.MethodName) prog_164_method_9_code (6 : Nat) (Option.none : Option Jvm.ClassFile.FieldType)).before args0 about1 = true := code_word (m := ⟨3, 6⟩) (meth := k3m6) (c := k3c6) (by decide +kernel) rfl rfl rfl (by decide +kernel)
set_option maxRecDepth 65536 in
theorem w_c9 : (Jvm.Cond.code ({ cls := "java/lang/Double", name := "compare", desc := "(DD)I" } : Jvm.MethodName) jdk_117_method_27_code (8 : Nat) (Option.some Jvm.ClassFile.FieldType.int)).before args0 about1 = true := code_word (m := ⟨12, 3⟩) (meth := k12m3) (c := k12c3) (by decide +kernel) rfl rfl rfl (by decide +kernel)
set_option maxRecDepth 65536 in
theorem w_c10 : (Jvm.Cond.code ({ cls := "java/lang/Double", name := "doubleToLongBits", desc := "(D)J" } : Jvm.MethodName) jdk_117_method_23_code (2 : Nat) (Option.some Jvm.ClassFile.FieldType.long)).before args0 about1 = true := code_word (m := ⟨12, 1⟩) (meth := k12m1) (c := k12c1) (by decide +kernel) rfl rfl rfl (by decide +kernel)
set_option maxRecDepth 65536 in
theorem w_c11 : (Jvm.Cond.code ({ cls := "java/lang/Double", name := "isNaN", desc := "(D)Z" } : Jvm.MethodName) jdk_117_method_6_code (2 : Nat) (Option.some Jvm.ClassFile.FieldType.boolean)).before args0 about1 = true := code_word (m := ⟨12, 0⟩) (meth := k12m0) (c := k12c0) (by decide +kernel) rfl rfl rfl (by decide +kernel)
set_option maxRecDepth 65536 in
theorem w_c12 : (Jvm.Cond.code ({ cls := "com/example/holdback/holdback/sim/EventQueue", name := "isEmpty", desc := "()Z" } : Jvm.MethodName) prog_164_method_4_code (1 : Nat) (Option.some Jvm.ClassFile.FieldType.boolean)).before args0 about1 = true := code_word (m := ⟨3, 2⟩) (meth := k3m2) (c := k3c2) (by decide +kernel) rfl rfl rfl (by decide +kernel)
set_option maxRecDepth 65536 in
theorem w_c13 : (Jvm.Cond.code ({ cls := "com/example/holdback/holdback/sim/EventQueue", name := "add", desc := "(IDLjava/lang/Runnable;)V" } : Jvm.MethodName) prog_164_method_2_code (6 : Nat) (Option.none : Option Jvm.ClassFile.FieldType)).before args0 about1 = true := code_word (m := ⟨3, 1⟩) (meth := k3m1) (c := k3c1) (by decide +kernel) rfl rfl rfl (by decide +kernel)
set_option maxRecDepth 65536 in
theorem w_c14 : (Jvm.Cond.code ({ cls := "com/example/holdback/holdback/sim/EventQueue$Stream", name := "add", desc := "(DJLjava/lang/Runnable;)V" } : Jvm.MethodName) prog_165_method_2_code (7 : Nat) (Option.none : Option Jvm.ClassFile.FieldType)).before args0 about1 = true := code_word (m := ⟨10, 1⟩) (meth := k10m1) (c := k10c1) (by decide +kernel) rfl rfl rfl (by decide +kernel)
set_option maxRecDepth 65536 in
theorem w_c15 : (Jvm.Cond.code ({ cls := "com/example/holdback/holdback/sim/EventQueue", name := "firstChanged", desc := "(IZ)V" } : Jvm.MethodName) prog_164_method_8_code (5 : Nat) (Option.none : Option Jvm.ClassFile.FieldType)).before args0 about1 = true := code_word (m := ⟨3, 5⟩) (meth := k3m5) (c := k3c5) (by decide +kernel) rfl rfl rfl (by decide +kernel)
set_option maxRecDepth 65536 in
theorem w_c16 : (Jvm.Cond.code ({ cls := "com/example/holdback/holdback/sim/EventQueue", name := "poll", desc := "()Ljava/lang/Runnable;" } : Jvm.MethodName) prog_164_method_6_code (3 : Nat) (Option.some (Jvm.ClassFile.FieldType.object "java/lang/Runnable"))).before args0 about1 = true := code_word (m := ⟨3, 3⟩) (meth := k3m3) (c := k3c3) (by decide +kernel) rfl rfl rfl (by decide +kernel)
set_option maxRecDepth 65536 in
theorem w_c17 : (Jvm.Cond.code ({ cls := "com/example/holdback/holdback/sim/EventQueue", name := "requireEvent", desc := "()V" } : Jvm.MethodName) prog_164_method_7_code (1 : Nat) (Option.none : Option Jvm.ClassFile.FieldType)).before args0 about1 = true := code_word (m := ⟨3, 4⟩) (meth := k3m4) (c := k3c4) (by decide +kernel) rfl rfl rfl (by decide +kernel)
set_option maxRecDepth 65536 in
theorem w_c18 : (Jvm.Cond.code ({ cls := "com/example/holdback/holdback/sim/EventQueue$Stream", name := "removeFirst", desc := "()Ljava/lang/Runnable;" } : Jvm.MethodName) prog_165_method_3_code (3 : Nat) (Option.some (Jvm.ClassFile.FieldType.object "java/lang/Runnable"))).before args0 about1 = true := code_word (m := ⟨10, 2⟩) (meth := k10m2) (c := k10c2) (by decide +kernel) rfl rfl rfl (by decide +kernel)
def codes1 : List Jvm.Cond := [Jvm.Cond.code x code maxLocals ret, Jvm.Cond.code ({ cls := "java/lang/Math", name := "min", desc := "(II)I" } : Jvm.MethodName) jdk_29_method_69_code (2 : Nat) (Option.some Jvm.ClassFile.FieldType.int), Jvm.Cond.code ({ cls := "com/example/holdback/holdback/sim/EventQueue", name := "<init>", desc := "(I)V" } : Jvm.MethodName) prog_164_method_1_code (4 : Nat) (Option.none : Option Jvm.ClassFile.FieldType), Jvm.Cond.code ({ cls := "java/lang/Object", name := "<init>", desc := "()V" } : Jvm.MethodName) object_method_1_code (1 : Nat) (Option.none : Option Jvm.ClassFile.FieldType), Jvm.Cond.code ({ cls := "java/lang/Math", name := "max", desc := "(II)I" } : Jvm.MethodName) jdk_29_method_65_code (2 : Nat) (Option.some Jvm.ClassFile.FieldType.int), Jvm.Cond.code ({ cls := "java/lang/Integer", name := "highestOneBit", desc := "(I)I" } : Jvm.MethodName) jdk_33_method_45_code (1 : Nat) (Option.some Jvm.ClassFile.FieldType.int), Jvm.Cond.code ({ cls := "java/lang/Integer", name := "numberOfLeadingZeros", desc := "(I)I" } : Jvm.MethodName) jdk_33_method_47_code (2 : Nat) (Option.some Jvm.ClassFile.FieldType.int), Jvm.Cond.code ({ cls := "com/example/holdback/holdback/sim/EventQueue$Stream", name := "<init>", desc := "()V" } : Jvm.MethodName) prog_165_method_1_code (1 : Nat) (Option.none : Option Jvm.ClassFile.FieldType), Jvm.Cond.code ({ cls := "com/example/holdback/holdback/sim/EventQueue", name := "play", desc := "(I)V" } : Jvm.MethodName) prog_164_method_9_code (6 : Nat) (Option.none : Option Jvm.ClassFile.FieldType), Jvm.Cond.code ({ cls := "java/lang/Double", name := "compare", desc := "(DD)I" } : Jvm.MethodName) jdk_117_method_27_code (8 : Nat) (Option.some Jvm.ClassFile.FieldType.int), Jvm.Cond.code ({ cls := "java/lang/Double", name := "doubleToLongBits", desc := "(D)J" } : Jvm.MethodName) jdk_117_method_23_code (2 : Nat) (Option.some Jvm.ClassFile.FieldType.long), Jvm.Cond.code ({ cls := "java/lang/Double", name := "isNaN", desc := "(D)Z" } : Jvm.MethodName) jdk_117_method_6_code (2 : Nat) (Option.some Jvm.ClassFile.FieldType.boolean), Jvm.Cond.code ({ cls := "com/example/holdback/holdback/sim/EventQueue", name := "isEmpty", desc := "()Z" } : Jvm.MethodName) prog_164_method_4_code (1 : Nat) (Option.some Jvm.ClassFile.FieldType.boolean), Jvm.Cond.code ({ cls := "com/example/holdback/holdback/sim/EventQueue", name := "add", desc := "(IDLjava/lang/Runnable;)V" } : Jvm.MethodName) prog_164_method_2_code (6 : Nat) (Option.none : Option Jvm.ClassFile.FieldType), Jvm.Cond.code ({ cls := "com/example/holdback/holdback/sim/EventQueue$Stream", name := "add", desc := "(DJLjava/lang/Runnable;)V" } : Jvm.MethodName) prog_165_method_2_code (7 : Nat) (Option.none : Option Jvm.ClassFile.FieldType), Jvm.Cond.code ({ cls := "com/example/holdback/holdback/sim/EventQueue", name := "firstChanged", desc := "(IZ)V" } : Jvm.MethodName) prog_164_method_8_code (5 : Nat) (Option.none : Option Jvm.ClassFile.FieldType), Jvm.Cond.code ({ cls := "com/example/holdback/holdback/sim/EventQueue", name := "poll", desc := "()Ljava/lang/Runnable;" } : Jvm.MethodName) prog_164_method_6_code (3 : Nat) (Option.some (Jvm.ClassFile.FieldType.object "java/lang/Runnable")), Jvm.Cond.code ({ cls := "com/example/holdback/holdback/sim/EventQueue", name := "requireEvent", desc := "()V" } : Jvm.MethodName) prog_164_method_7_code (1 : Nat) (Option.none : Option Jvm.ClassFile.FieldType), Jvm.Cond.code ({ cls := "com/example/holdback/holdback/sim/EventQueue$Stream", name := "removeFirst", desc := "()Ljava/lang/Runnable;" } : Jvm.MethodName) prog_165_method_3_code (3 : Nat) (Option.some (Jvm.ClassFile.FieldType.object "java/lang/Runnable"))]
set_option maxRecDepth 65536 in
theorem codes_eq : words1.filter isCode = codes1 := rfl
theorem w_codes : ∀ c ∈ words1.filter isCode, c.before args0 about1 = true := by
  rw [codes_eq]
  intro c hc
  simp only [codes1, List.mem_cons, List.not_mem_nil, or_false] at hc
  rcases hc with rfl | rfl | rfl | rfl | rfl | rfl | rfl | rfl | rfl | rfl | rfl | rfl | rfl | rfl | rfl | rfl | rfl | rfl | rfl
  · exact w_c0
  · exact w_c1
  · exact w_c2
  · exact w_c3
  · exact w_c4
  · exact w_c5
  · exact w_c6
  · exact w_c7
  · exact w_c8
  · exact w_c9
  · exact w_c10
  · exact w_c11
  · exact w_c12
  · exact w_c13
  · exact w_c14
  · exact w_c15
  · exact w_c16
  · exact w_c17
  · exact w_c18
set_option maxRecDepth 65536 in
theorem w_t1 : (words1.take 24).all (fun c => isCode c || c.before args0 about1) = true := by decide +kernel
set_option maxRecDepth 65536 in
theorem w_t2 : ((words1.drop 24).take 24).all (fun c => isCode c || c.before args0 about1) = true := by decide +kernel
set_option maxRecDepth 65536 in
theorem w_t3 : (((words1.drop 24).drop 24).take 24).all (fun c => isCode c || c.before args0 about1) = true := by decide +kernel
set_option maxRecDepth 65536 in
theorem w_t4 : ((((words1.drop 24).drop 24).drop 24).take 24).all (fun c => isCode c || c.before args0 about1) = true := by decide +kernel
set_option maxRecDepth 65536 in
theorem w_t5 : (((((words1.drop 24).drop 24).drop 24).drop 24).take 24).all (fun c => isCode c || c.before args0 about1) = true := by decide +kernel
set_option maxRecDepth 65536 in
theorem w_t6 : (((((words1.drop 24).drop 24).drop 24).drop 24).drop 24).all (fun c => isCode c || c.before args0 about1) = true := by decide +kernel
theorem w_tables : (allAtoms (Jvm.Cond.code x code maxLocals ret :: tables_1)).before args0 about1 = true := by
  rw [allAtoms_all]
  show words1.all (fun c => c.before args0 about1) = true
  refine all_split ?_ w_codes
  rw [← List.take_append_drop 24 words1, List.all_append, w_t1, ← List.take_append_drop 24 (words1.drop 24), List.all_append, w_t2, ← List.take_append_drop 24 ((words1.drop 24).drop 24), List.all_append, w_t3, ← List.take_append_drop 24 (((words1.drop 24).drop 24).drop 24), List.all_append, w_t4, ← List.take_append_drop 24 ((((words1.drop 24).drop 24).drop 24).drop 24), List.all_append, w_t5, w_t6]
  rfl
set_option maxRecDepth 65536 in
theorem w_case : (Jvm.Cond.and given_1 narrow_1).before args0 about1 = true := by decide +kernel
theorem w_applies : (headSpec (Jvm.Cond.code x code maxLocals ret :: tables_1) room_1).applies x e0.platform about1 = true :=
  (Spec.applies_iff w_frames).mpr ⟨w_running, w_runnable, w_alone, w_named, w_hears, w_ripe, w_room, w_tables⟩
theorem atStart : AtStart classFile x code maxLocals ret World_1 tables_1 room_1 Calls_1 rest_1 Pre_1 launch0 p0 e0 about1 theMethod args0 below0 :=
  ⟨lists_1, trivial, launch0.admits_env _ _ _, launch0.least_env, fairChoices_fair.cas, fairChoices_fair.clock, w_frames, w_args, w_heap, w_applies, trivial, trivial, w_case⟩
end start1
theorem witness_1 : WitnessClaimed_1 := ⟨start1.p0, start1.e0, start1.about1, start1.theMethod, start1.args0, start1.below0, start1.atStart⟩
end Jvm.Pilot.@@N@@
