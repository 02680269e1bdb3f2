import JvmDerived
import JvmDerived.Pilot.@@N@@Statement
import JvmDerived.Pilot.@@N@@Code
set_option linter.unusedVariables false
set_option linter.unusedSimpArgs false
namespace Jvm.RoadKit
open Sem ClassFile Op Lib Jvm.Stand Jvm.Free Jvm.LawKit
section New
variable {p : Program} {l : Launch} {e : Env} {R : Room} {s : State} {m : MethodId} {args : Array Value} {below : List Frame} {meth : Method} {c : Code} {T : State} {locs : List Loc} {cells slots : Nat}
theorem retI (X : Stand p l e R s m args below meth c T locs cells slots) (hx : p.tables.exec = Jvm.exec) {pc : Nat} {Ls : Array Slot} {z : Int32} {rest : List Value} (hret : meth.sig.returnType = some .int) (hd : decode c.code pc = .ok (.ireturn, 1)) {fs : List Frame}
    (hl : ∀ (f : JFrame) (acts : List Action), f.method = m → f.locked = none → f.entered = [] → (doReturn e (T.setTop f) acts (some (.int z))).1 = T.setFrames fs) : Steps p.tables e below (T.setTop (mkF m pc Ls (.int z :: rest))) (T.setFrames fs) := by
  have hm' : T.vm.method? m = some meth := X.method'
  have hn : narrow .int (.int z) = .int z := rfl
  show Steps p.tables e below (T.setTop { method := m, pc := pc, locals := Ls, stack := _ :: rest, locked := none }) _
  jvm_step X.here [X.here.top, hx, hd, hm', hret, hn]
  first | (intro acts; rw [hl _ acts rfl rfl rfl]) | rw [hl _ _ rfl rfl rfl]
  exact Steps.refl _
end New
end Jvm.RoadKit
namespace Jvm.RoadKit
open Sem ClassFile Op Lib Bundle Jvm.Stand Jvm.Free Jvm.LawKit Jvm.Free.SB Jvm.Free.SBG
/-- a String whose array is not set yet is no constant's -/
theorem own_safe_null {Z : State} {h : Heap} {vm : Vm} {EL : List (String × Nat)} {a : Addr} (hal : Z.vm.Alike vm) (E : Exa Z h a "java/lang/String") (F : Fld Z h a "java/lang/String" "value" "[B" .null) : Safe Z EL vm h a := fun B => by
  obtain ⟨cell, k, e1, e2, e3, -, -⟩ := E
  obtain ⟨cell', cf, k', i, f, f1, f2, f3, f4, -, -, f7⟩ := F
  cases e1.symm.trans f1
  obtain ⟨p, -, u, b, -, q, -, SB, rfl | rfl⟩ := B
  · cases (show h[q.sa]? = some q.sC from SB.ha).symm.trans e1
    obtain ⟨cS, ⟨⟨-, -, -, ⟨c1, k1, i1, g1, -⟩, -, -, -, v1, -⟩, -⟩, -⟩ := SB
    obtain ⟨k3, e3', -⟩ := State.fieldFound?_setVm (s := Z) hal f2
    have e4 := (show (Wst Z vm h).fieldFound? "java/lang/String" "value" "[B" = some (cf, k3, i, f) from e3').symm.trans g1
    simp only [Option.some.injEq, Prod.mk.injEq] at e4
    rw [← e4.2.2.2, f7] at v1
    cases v1
  · cases (show h[q.sd]? = some q.SA from SB.hd).symm.trans e1
    obtain ⟨cS, -, -, fB, -⟩ := SB
    have fB : vm.findClass "[B" = some q.SA.cls := fB
    rw [hal.findClass] at fB
    obtain ⟨k1, q1, q2⟩ := Vm.findClass_spec fB
    obtain ⟨k2, q3, q4⟩ := Vm.findClass_spec e2
    cases q1.symm.trans q3
    exact absurd (q2.symm.trans q4) (by decide)
end Jvm.RoadKit
namespace Jvm.RoadKit
open Sem ClassFile Op Lib Jvm.Stand Jvm.Free Jvm.LawKit
section OwnRefs
variable {p : Program} {l : Launch} {e : Env} {R : Room} {s Z : State} {a0 : Array Value} {m : MethodId} {args : Array Value} {below : List Frame} {meth : Method} {c : Code} {T : State} {locs : List Loc} {cells slots : Nat} {h : Heap}
/-- a field through a resolved entry (the word fieldRef) -/
theorem own_getR (X : Stand p l e R s m args below meth c T locs cells slots) (hx : p.tables.exec = Jvm.exec) (hZ : Z.Warmed39 s.vm) {own O n d : String} {index : Nat} (hown : s.vm.findClass own = some m.cls) (w : (Cond.fieldRef own index O n d).before a0 Z = true)
    (eT : T.heap = h) {a : Addr} {v : Value} (F : Fld Z h a O n d v) {g : JFrame} (hg : g.method = m) {rest : List Value} (hs : g.stack = .ref a :: rest) (hd : decode c.code g.pc = .ok (.getfield index, 3)) : ∃ T', Stand p l e R s m args below meth c T' locs cells slots ∧ T'.heap = h ∧ ∀ target, Steps p.tables e below (T'.setTop { g with pc := g.pc + 3, stack := v :: rest }) target → Steps p.tables e below (T.setTop g) target := by
  obtain ⟨cell, cf, k, i, f, h1, h2, h3, h4, -, -, h7⟩ := F
  have hU : Z.Warmed39 T.vm := wtrans hZ X.warmed
  have w1 := Cond.fieldRef_warmed39 hU w
  have hcur : (Z.setVm T.vm).vm.findClass own = some m.cls := by
    show T.vm.findClass own = _
    rw [X.warmed.alike.findClass]; exact hown
  obtain ⟨c', k', i', f', q1, q2⟩ := Cond.fieldRef_spec hcur w1
  obtain ⟨k2, hi, -⟩ := State.fieldFound?_setVm (s := Z) hU.alike h2
  have hi' : (Z.setVm T.vm).fieldFound? O n d = some (cf, k2, i, f) := hi
  cases hi'.symm.trans q1
  refine ⟨T, X, eT, fun target hrest => ?_⟩
  subst hg
  jvm_step X.here [hx, hd, getfield.wp_ready (e := e) (s := T) (f := g) X.here.top q2 h3 hs (show T.heap[a]? = some cell by rw [eT]; exact h1) h4 h7]
  exact hrest
/-- a constructor through a resolved entry (the word methodRef) -/
theorem own_specR (X : Stand p l e R s m args below meth c T locs cells slots) (hexec : p.tables.exec = Jvm.exec) (hZ : Z.Warmed39 s.vm) {own : String} {index : Nat} {y : MethodName} (hy1 : y.name = "<init>")
    (hown : s.vm.findClass own = some m.cls) (wr : (Cond.methodRef own index y).before a0 Z = true) (wi : (Cond.instanceMethod y).before a0 Z = true)
    {bytes : ByteArray} {maxL : Nat} (wc : (Cond.code y bytes maxL none).before a0 Z = true)
    (hy : y.cls ≠ "java/lang/invoke/MethodHandle" ∧ y.cls ≠ "java/lang/invoke/VarHandle")
    {W : Nat} {Pre : Pt → Array Value → Prop} {Post : Pt → Array Value → Option Value → Pt → Prop} (hK : Back l R p e below s args y 3 W Pre Post)
    {g : JFrame} (hg : g.method = m) (hsize : g.locals.size = c.maxLocals) {s₀ : State} (hcome : Steps p.tables e below s₀ (T.setTop g)) {a : Addr} {argsL rest : List Value}
    (hlen : ∀ sig, parseMethodDescriptor y.desc = some sig → argsL.length = sig.parameters.length) (hstack : g.stack = argsL.reverse ++ .ref a :: rest) (hW : 2 * g.monitorRoom + (rest.map fun v => v.category).sum ≤ W)
    (hdg : decode c.code g.pc = .ok (.invokespecial index, 3)) (hpre : ∀ vm₁, s.WarmedH vm₁ → Pre ⟨T.setVm vm₁, locs, cells, slots⟩ (.ref a :: argsL).toArray) :
    ∃ (v : Option Value) (vm₁ : Vm) (B : Pt), s.WarmedH vm₁ ∧ Stand p l e R s m args below meth c B.U B.locs B.cells B.slots ∧ Post ⟨T.setVm vm₁, locs, cells, slots⟩ (.ref a :: argsL).toArray v B ∧
      Steps p.tables e below s₀ (B.U.setTop { g with pc := g.pc + 3, stack := v.toList ++ rest }) := by
  have hU : Z.Warmed39 T.vm := wtrans hZ X.warmed
  obtain ⟨obj, methO, hnZ, hmZ, hstO, habO⟩ := Cond.instanceMethod_spec wi
  obtain ⟨methO', cO, hmO', hcO, hbO, hlO, -, hlockO, -, hsigO⟩ := Cond.code_spec hnZ wc
  cases hmZ.symm.trans hmO'
  obtain ⟨kO, hkO, hnameO⟩ := className_of_methodNamed hnZ
  obtain ⟨hnameMO, hdescO⟩ := name_of_methodNamed hnZ hmZ
  have hnS : s.methodNamed? y = some obj := by
    have q : (Z.setVm s.vm).methodNamed? y = some obj := by rw [State.methodNamed?_setVm hZ.alike]; exact hnZ
    exact q
  have hcur : (Z.setVm T.vm).vm.findClass own = some m.cls := by
    show T.vm.findClass own = _
    rw [X.warmed.alike.findClass]; exact hown
  obtain ⟨m0, c', q1, q2, q3, q4⟩ := Cond.methodRef_named e hcur (Cond.methodRef_warmed39 hU hnZ hy wr)
  have q1' := State.methodFound?_of_named (s := Z.setVm T.vm) (show (Z.setVm T.vm).methodNamed? y = some obj by rw [State.methodNamed?_setVm hU.alike]; exact hnZ) hy
  cases q1'.symm.trans q1
  have hc' : c' = obj.cls := by
    have q5 : T.vm.findClass y.cls = some c' := q3
    rw [hU.alike.findClass, findClass_of_methodNamed hnZ] at q5
    exact (Option.some.inj q5).symm
  subst hc'
  obtain ⟨kO₂, hkO₂, heO₂⟩ := hU.alike.2.2 _ _ hkO
  have hmO₂ : T.vm.method? obj = some methO := by rw [hU.alike.method?]; exact hmZ
  have hfound : lookupSpecial T.vm obj.cls "<init>" methO.desc = .method obj := by
    rw [hU.alike.lookupSpecial, hdescO, ← hy1]; exact lookupSpecial_of_named hnZ hmZ hstO
  have hstep : ∀ target, (∀ acts, Steps p.tables e below (doInvoke e (T.setTop { g with stack := rest }) acts obj (.ref a :: argsL).toArray).1 target) → Steps p.tables e below (T.setTop g) target := by
    intro target hrest
    subst hg
    jvm_step X.here [hexec, hdg, invokespecial.wp_init (e := e) (s := T) (k := kO₂) (meth := methO) (m := obj) (a := a) (args := argsL) (rest := rest) (f := g) X.here.top q4 q2 hkO₂ hmO₂ (by rw [hnameMO]; exact hy1) hstO habO hfound (hlen _ hsigO) hstack]
    exact hrest
  have eT : T.setVm T.vm = T := rfl
  obtain ⟨v, B, X', hpost, hsteps⟩ := hK m meth c ⟨T, locs, cells, slots⟩ { g with stack := rest } (.invokespecial index) obj (Value.ref a :: argsL).toArray X hg hsize hdg hW (X.named hnS) (show Pre ⟨T, locs, cells, slots⟩ (Value.ref a :: argsL).toArray from hpre T.vm X.warmed)
  exact ⟨v, T.vm, B, X.warmed, X', hpost, (hcome.trans (hstep _ fun acts => by rw [doInvoke_state]; exact Steps.refl _)).trans hsteps⟩
/-- dup2_x1 of a long above a reference -/
theorem own_dup2x1 {tb : Tables} [Ours tb] {T target : State} {g : JFrame} (h : At T m c below) (hx : tb.exec = Jvm.exec) (hg : g.method = m) {x : Int64} {y : Addr} {rest : List Value} (hd : decode c.code g.pc = .ok (.dup2_x1, 1)) (hs : g.stack = .long x :: .ref y :: rest)
    (hr : Steps tb e below (T.setTop { g with pc := g.pc + 1, stack := .long x :: .ref y :: .long x :: rest }) target) : Steps tb e below (T.setTop g) target := by
  subst hg
  jvm_step h [h.top, hx, hd, hs, Value.category]
  exact hr
theorem own_selp {C : String} {x z y : MethodName} (hsel : (Cond.selects C x z).before a0 Z = true) (e0 : z.cls = y.cls) (hp : (Cond.privateMethod y).before a0 Z = true) (hi : (Cond.instanceMethod y).before a0 Z = true) (hy : y.cls ≠ "java/lang/invoke/MethodHandle" ∧ y.cls ≠ "java/lang/invoke/VarHandle") : (Cond.selects y.cls y y).before a0 Z = true := by
  obtain ⟨c2, r2, m2, q1, q2, q3, q4, kP, hkP, hkPi⟩ := Cond.selects_spec hsel
  have a1 := findClass_of_methodNamed q3
  rw [e0] at a1
  obtain ⟨mk, methM, hnamed, hmethM, -, -⟩ := Cond.instanceMethod_spec hi
  have a2 := findClass_of_methodNamed hnamed
  have e2 := Option.some.inj (a1.symm.trans a2)
  exact selects_self_of_private a2 (by rw [← e2]; exact hkP) hkPi (Cond.privateMethod_at hp) hi hy
end OwnRefs
end Jvm.RoadKit
namespace Jvm.RoadKit
open Sem ClassFile Op Lib Jvm.Stand Jvm.Free Jvm.LawKit
/-- the int is the list's length -/
def own_fit (vs : List Value) (n : Int32) : Prop := n.toInt = vs.length
theorem own_fit.nn {vs : List Value} {n : Int32} (h : own_fit vs n) : ¬ n < 0 := by
  rw [Int32.lt_iff_toInt_lt]; have e : (0 : Int32).toInt = 0 := rfl
  unfold own_fit at h; omega
theorem own_fit.cl {vs : List Value} {n : Int32} (h : own_fit vs n) : n.toNatClampNeg = vs.length := by
  unfold own_fit at h; simp only [Int32.toNatClampNeg]; omega
theorem own_fit.add {us vs : List Value} {n m : Int32} (h : own_fit us n) (k : own_fit vs m) (b : us.length + vs.length ≤ 100000) : own_fit (us ++ vs) (n + m) := by
  unfold own_fit at *
  rw [List.length_append]
  have c1 := c_iadd n m
  have c2 := Int32.toInt_lt (n + m)
  have c3 := Int32.le_toInt (n + m)
  omega
theorem own_fit.cap {us vs : List Value} {n m : Int32} (h : own_fit us n) (k : own_fit vs m) (b : us.length + vs.length ≤ 16) : ¬ ((0 : Int32) < ((n + m) - (16 : Int32))) := by
  have f := own_fit.add h k (by omega)
  unfold own_fit at f
  rw [List.length_append] at f
  rw [Int32.lt_iff_toInt_lt]
  have e : (0 : Int32).toInt = 0 := rfl
  have e1 : (16 : Int32).toInt = 16 := rfl
  have c1 := c_isub (n + m) 16
  have c2 := Int32.toInt_lt ((n + m) - 16)
  have c3 := Int32.le_toInt ((n + m) - 16)
  omega
theorem own_fit.lt {vs : List Value} {n : Int32} (h : own_fit vs n) (b : vs.length ≤ 15) : n < (16 : Int32) := by
  rw [Int32.lt_iff_toInt_lt]; have e : (16 : Int32).toInt = 16 := rfl
  unfold own_fit at h; omega
theorem own_fit.ne {vs : List Value} {n : Int32} (h : own_fit vs n) (b : vs.length ≤ 15) : ¬ (n = (16 : Int32)) := fun q => by
  have e : (16 : Int32).toInt = 16 := rfl
  unfold own_fit at h; rw [q] at h; omega
theorem own_shl0 (x : Int32) : x <<< ((0 : Int32) &&& 31) = x := by
  have e : ((0 : Int32) &&& 31) = 0 := by decide
  rw [e]; exact Int32.shiftLeft_zero
theorem own_shr0 (x : Int32) : x >>> ((0 : Int32) &&& 31) = x := by
  have e : ((0 : Int32) &&& 31) = 0 := by decide
  rw [e]; exact Int32.shiftRight_zero
theorem own_sub0 (x : Int32) : x - (0 : Int32) = x := by simp
theorem own_same {Z : State} {a0 : Array Value} {C : String} {x z y : MethodName} (hsel : (Cond.selects C x z).before a0 Z = true) (e0 : z.cls = y.cls) (hi : (Cond.instanceMethod y).before a0 Z = true) (hy : y.cls ≠ "java/lang/invoke/MethodHandle" ∧ y.cls ≠ "java/lang/invoke/VarHandle") : (Cond.sameMethod y.cls y.cls y.name y.desc).before a0 Z = true := by
  obtain ⟨c2, r2, m2, q1, q2, q3, q4, kP, hkP, hkPi⟩ := Cond.selects_spec hsel
  have a1 := findClass_of_methodNamed q3
  rw [e0] at a1
  obtain ⟨mk, methM, hnamed, hmethM, -, -⟩ := Cond.instanceMethod_spec hi
  have hf := State.methodFound?_of_named hnamed hy
  simp [Cond.before, Cond.holds, Cond.value, a1, hf, hnamed, hkP, hkPi]
/-- the builder's array holds the list and is not too long -/
def own_cap (us : List Value) (cp : Int32) : Prop := (us.length : Int) ≤ cp.toInt ∧ 16 ≤ cp.toInt ∧ (cp.toInt = 16 ∨ cp.toInt = 34 ∨ cp.toInt = 70 ∨ cp.toInt = 142)
def own_mn (mn cp : Int32) : Prop := 0 ≤ mn.toInt ∧ mn.toInt ≤ 125 ∧ mn.toInt ≤ 2 * cp.toInt + 2
theorem own_cap.nn {us : List Value} {cp : Int32} (h : own_cap us cp) : ¬ cp < 0 := by
  rw [Int32.lt_iff_toInt_lt]; have e : (0 : Int32).toInt = 0 := rfl
  obtain ⟨h1, h2, h3⟩ := h; omega
theorem own_cap.le {us : List Value} {cp : Int32} (h : own_cap us cp) : us.length ≤ cp.toNatClampNeg := by
  obtain ⟨h1, h2, h3⟩ := h; simp only [Int32.toNatClampNeg]; omega
theorem own_mn_of {us vs : List Value} {n m cp : Int32} (h : own_fit us n) (k : own_fit vs m) (b : us.length + vs.length ≤ 125) (b2 : ((us.length + vs.length : Nat) : Int) ≤ 2 * cp.toInt + 2) : own_mn (n + m) cp := by
  have f := own_fit.add h k (by omega)
  unfold own_fit at f; rw [List.length_append] at f
  exact ⟨by omega, by omega, by omega⟩
theorem own_no {us vs : List Value} {n m cp : Int32} (h : own_fit us n) (k : own_fit vs m) (hc : own_cap us cp) (q : us.length + vs.length ≤ cp.toNatClampNeg) : ¬ ((0 : Int32) < ((n + m) - cp)) := by
  obtain ⟨h1, h2, h3⟩ := hc
  simp only [Int32.toNatClampNeg] at q
  have f := own_fit.add h k (by omega)
  unfold own_fit at f; rw [List.length_append] at f
  have c1 := c_isub (n + m) cp
  have c2 := rng32 ((n + m) - cp)
  rw [Int32.lt_iff_toInt_lt]; have e : (0 : Int32).toInt = 0 := rfl
  omega
theorem own_gt {us : List Value} {mn cp : Int32} (hm : own_mn mn cp) (hc : own_cap us cp) : (0 : Int32) < (mn - cp) ↔ cp.toInt < mn.toInt := by
  obtain ⟨h1, h2, h3⟩ := hc
  obtain ⟨m1, m2, m3⟩ := hm
  have c1 := c_isub mn cp
  have c2 := rng32 (mn - cp)
  rw [Int32.lt_iff_toInt_lt]; have e : (0 : Int32).toInt = 0 := rfl
  constructor <;> intro q <;> omega
theorem own_nl {us : List Value} {mn cp : Int32} {r1 : Int32} (hm : own_mn mn cp) (hc : own_cap us cp) (hq : (0 : Int32) < (mn - cp)) (e : r1 = (cp + (if (mn - cp) < (cp + (2 : Int32)) then (cp + (2 : Int32)) else (mn - cp)))) : mn.toInt ≤ r1.toInt ∧ r1.toInt = 2 * cp.toInt + 2 := by
  have hlt := (own_gt hm hc).mp hq
  obtain ⟨h1, h2, h3⟩ := hc
  obtain ⟨m1, m2, m3⟩ := hm
  have c1 := c_isub mn cp
  have c2 := rng32 (mn - cp)
  have c3 := c_iadd cp 2
  have c4 := rng32 (cp + 2)
  have e2 : (2 : Int32).toInt = 2 := rfl
  by_cases q : (mn - cp) < (cp + (2 : Int32))
  · rw [if_pos q] at e
    have c5 := c_iadd cp (cp + 2)
    have c6 := rng32 (cp + (cp + 2))
    rw [Int32.lt_iff_toInt_lt] at q
    rw [e]; omega
  · rw [if_neg q] at e
    have c5 := c_iadd cp (mn - cp)
    have c6 := rng32 (cp + (mn - cp))
    rw [Int32.lt_iff_toInt_lt] at q
    rw [e]; omega
theorem own_pos {us : List Value} {mn cp r1 : Int32} (hm : own_mn mn cp) (hc : own_cap us cp) (hq : (0 : Int32) < (mn - cp)) (q : mn.toInt ≤ r1.toInt ∧ r1.toInt = 2 * cp.toInt + 2) : (0 : Int32) < r1 ∧ ¬ ((2147483639 : Int32) < r1) ∧ ¬ (r1 = (2147483647 : Int32)) ∧ ¬ (r1 = cp) ∧ ¬ (r1 < cp) ∧ ¬ (r1 < 0) ∧ own_cap us r1 ∧ r1.toNatClampNeg ≤ 142 ∧ cp.toNatClampNeg ≤ r1.toNatClampNeg := by
  have hlt := (own_gt hm hc).mp hq
  obtain ⟨h1, h2, h3⟩ := hc
  obtain ⟨m1, m2, m3⟩ := hm
  have e0 : (0 : Int32).toInt = 0 := rfl
  have e1 : (2147483639 : Int32).toInt = 2147483639 := rfl
  have e2 : (2147483647 : Int32).toInt = 2147483647 := rfl
  refine ⟨?_, ?_, ?_, ?_, ?_, ?_, ⟨?_, ?_, ?_⟩, ?_, ?_⟩
  · rw [Int32.lt_iff_toInt_lt]; omega
  · rw [Int32.lt_iff_toInt_lt]; omega
  · intro h; rw [h] at q; omega
  · intro h; rw [h] at q; omega
  · rw [Int32.lt_iff_toInt_lt]; omega
  · rw [Int32.lt_iff_toInt_lt]; omega
  · omega
  · omega
  · omega
  · simp only [Int32.toNatClampNeg]; omega
  · simp only [Int32.toNatClampNeg]; omega
theorem own_room {us vs : List Value} {n m cp : Int32} (h : own_fit us n) (k : own_fit vs m) (b : us.length + vs.length ≤ 125) (q : (n + m).toInt ≤ cp.toInt) : us.length + vs.length ≤ cp.toNatClampNeg := by
  have f := own_fit.add h k (by omega)
  unfold own_fit at f; rw [List.length_append] at f
  simp only [Int32.toNatClampNeg]; omega
theorem own_cap.app {us vs : List Value} {cp : Int32} (h : own_cap us cp) (q : us.length + vs.length ≤ cp.toNatClampNeg) : own_cap (us ++ vs) cp := by
  obtain ⟨h1, h2, h3⟩ := h
  simp only [Int32.toNatClampNeg] at q
  exact ⟨by rw [List.length_append]; omega, h2, h3⟩
theorem own_kp {b2 sb vb n : Nat} (h : b2 = vb ∨ n ≤ b2) : b2 ∈ [sb, vb] ∨ n ≤ b2 := by
  rcases h with h | h
  · exact Or.inl (by simp [h])
  · exact Or.inr h
theorem own_byte {v : Value} (h : fits .byte v = true) : ∃ x, v = .int x := by
  cases v <;> first | exact ⟨_, rfl⟩ | (simp [fits] at h)
theorem own_arvI {Z : State} {h : Heap} {a : Addr} {k : ClassId} {z j : Int32} {vs : List Value} {d : Value} (A : Arv Z h a k .byte z vs d) (q : ¬ j < 0 ∧ j < z) : ∃ x, vs.getD j.toNatClampNeg d = .int x := by
  obtain ⟨c, A1, -, S, hz, -, G⟩ := A
  refine own_byte (G _ ?_)
  rw [S]
  have e0 : (0 : Int32).toInt = 0 := rfl
  obtain ⟨q1, q2⟩ := q
  rw [Int32.lt_iff_toInt_lt] at q1 q2
  simp only [Int32.toNatClampNeg]; omega
/-- two lists that agree up to a place -/
def own_eqi (va wb : List Value) (ii : Int32) : Prop := 0 ≤ ii.toInt ∧ ii.toInt ≤ va.length ∧ ∀ k : Nat, (k : Int) < ii.toInt → va.getD k (.int (0 : Int32)) = wb.getD k (.int (0 : Int32))
theorem own_eqi0 (va wb : List Value) : own_eqi va wb (0 : Int32) := ⟨by decide, by show (0 : Int) ≤ _; omega, fun k hk => absurd hk (by show ¬ ((k : Int) < 0); omega)⟩
theorem own_eqin {va wb : List Value} {na ii : Int32} (f : own_fit va na) (H : own_eqi va wb ii) (h : ii < na) : ¬ ii < (0 : Int32) ∧ ii < na := by
  refine ⟨?_, h⟩
  rw [Int32.lt_iff_toInt_lt]; have e0 : (0 : Int32).toInt = 0 := rfl
  have := H.1; omega
theorem own_eqiS {va wb : List Value} {na ii x y : Int32} (f : own_fit va na) (H : own_eqi va wb ii) (h : ii < na) (ex : va.getD ii.toNatClampNeg (.int (0 : Int32)) = .int x) (ey : wb.getD ii.toNatClampNeg (.int (0 : Int32)) = .int y) (q : x = y) : own_eqi va wb (ii + (1 : Int32)) := by
  obtain ⟨h1, h2, h3⟩ := H
  unfold own_fit at f
  rw [Int32.lt_iff_toInt_lt] at h
  have c1 := c_iadd ii 1
  have c2 := rng32 (ii + 1)
  have c3 := rng32 na
  have e1 : (1 : Int32).toInt = 1 := rfl
  have e2 : (ii + 1).toInt = ii.toInt + 1 := by omega
  refine ⟨by omega, by omega, fun k hk => ?_⟩
  by_cases hk2 : (k : Int) < ii.toInt
  · exact h3 k hk2
  · have ek : k = ii.toNatClampNeg := by simp only [Int32.toNatClampNeg]; omega
    rw [ek, ex, ey, q]
theorem own_eqm {va : List Value} {na ii : Int32} (f : own_fit va na) (h1 : 0 ≤ ii.toInt) (h : ii < na) : va.length - (ii + (1 : Int32)).toInt.toNat < va.length - ii.toInt.toNat := by
  unfold own_fit at f
  rw [Int32.lt_iff_toInt_lt] at h
  have c1 := c_iadd ii 1
  have c2 := rng32 (ii + 1)
  have c3 := rng32 na
  have e1 : (1 : Int32).toInt = 1 := rfl
  omega
theorem own_eqY {va wb : List Value} {na nb ii : Int32} (f : own_fit va na) (g : own_fit wb nb) (e : na = nb) (H : own_eqi va wb ii) (h : ¬ ii < na) : va = wb := by
  obtain ⟨h1, h2, h3⟩ := H
  unfold own_fit at f g
  rw [Int32.lt_iff_toInt_lt] at h
  rw [e] at f h
  apply List.ext_getElem (by omega)
  intro i i1 i2
  have := h3 i (by omega)
  simpa [i1, i2] using this
theorem own_eqN {va wb : List Value} {na nb : Int32} (f : own_fit va na) (g : own_fit wb nb) (e : ¬ na = nb) : ¬ va = wb := fun q => e (by
  unfold own_fit at f g; rw [q] at f; exact Int32.toInt_inj.mp (by omega))
theorem own_eqX {va wb : List Value} {ii x y : Int32} (ex : va.getD ii.toNatClampNeg (.int (0 : Int32)) = .int x) (ey : wb.getD ii.toNatClampNeg (.int (0 : Int32)) = .int y) (q : ¬ x = y) : ¬ va = wb := fun z => q (by
  rw [z, ey] at ex; exact (Value.int.inj ex).symm)
theorem own_c250 {us : List Value} {cn cp : Int32} (f : own_fit us cn) (h : own_cap us cp) : cn.toNatClampNeg ≤ 142 := by
  rw [own_fit.cl f]; obtain ⟨h1, h2, h3⟩ := h; omega
theorem own_c250c {us : List Value} {cp : Int32} (h : own_cap us cp) : cp.toNatClampNeg ≤ 142 := by
  obtain ⟨h1, h2, h3⟩ := h; simp only [Int32.toNatClampNeg]; omega
theorem own_clt {us : List Value} {cn cp : Int32} (f : own_fit us cn) (h : own_cap us cp) (q : ¬ cn = cp) : cn < cp := by
  unfold own_fit at f; obtain ⟨h1, h2, h3⟩ := h
  rw [Int32.lt_iff_toInt_lt]
  have : cn.toInt ≠ cp.toInt := fun z => q (Int32.toInt_inj.mp z)
  omega
section OwnSb
variable {p : Program} {l : Launch} {e : Env} {R : Room} {s Z : State} {m : MethodId} {args : Array Value} {below : List Frame} {meth : Method} {c : Code} {T : State} {locs : List Loc} {cells slots : Nat} {h : Heap}
/-- arraycopy of a byte[]'s list behind another's -/
theorem own_cp (X : Stand p l e R s m args below meth c T locs cells slots) (hx : p.tables.exec = Jvm.exec) (hZ : Z.Warmed39 s.vm) {a0 : Array Value} {own : String} {index : Nat} (hown : s.vm.findClass own = some m.cls)
    (w1 : (Cond.methodLink own index Jvm.Stand.acN).before a0 Z = true) (w2 : (Cond.native Jvm.Stand.acN).before a0 Z = true) (w3 : (Cond.static Jvm.Stand.acN).before a0 Z = true) (w4 : (Cond.initialized "java/lang/System").before a0 Z = true) (eT : T.heap = h)
    {a b : Addr} {k k' : ClassId} {z z' dp nn : Int32} {vs ud : List Value} (A : Arv Z h a k .byte z vs (.int 0)) (B : Arv Z h b k' .byte z' ud (.int 0)) (f1 : own_fit vs nn) (f2 : own_fit ud dp) (q1 : vs.length ≤ z.toNatClampNeg) (q2 : ud.length + vs.length ≤ z'.toNatClampNeg)
    {n0 : Nat} (N : Fr n0 locs) (ge : n0 ≤ b) {g : JFrame} (hg : g.method = m) (hsize : g.locals.size = c.maxLocals) {rest : List Value} (hs : g.stack = .int nn :: .int dp :: .ref b :: .int 0 :: .ref a :: rest) (hd : decode c.code g.pc = .ok (.invokestatic index, 3))
    (hf : 1 ≤ R.frames) {W : Nat} (hW : 2 * g.monitorRoom + (rest.map fun v => v.category).sum ≤ W) (hlo : W + (nativeFrameWords "java/lang/System" "arraycopy" 5 + 11) ≤ R.locals) :
    ∃ T' h' L, Stand p l e R s m args below meth c T' L cells slots ∧ T'.heap = h' ∧ Fr n0 L ∧ Keep h h' [b] ∧ Arv Z h' b k' .byte z' (ud ++ vs) (.int 0) ∧
      ∀ target, Steps p.tables e below (T'.setTop { g with pc := g.pc + 3, stack := rest }) target → Steps p.tables e below (T.setTop g) target := by
  have e0 : (0 : Int32).toNatClampNeg = 0 := rfl
  have hus : vs = (List.range nn.toNatClampNeg).map fun i => vs.getD ((0 : Int32).toNatClampNeg + i) (.int 0) := by
    rw [f1.cl, e0]
    apply List.ext_getElem (by simp)
    intro i h1 h2
    simp [h1]
  obtain ⟨T', h', L, X', e', N', K, B', st⟩ := cpA X hx hZ hown w1 w2 w3 w4 eT A (B.pad (pad_rep ud (.int 0) vs.length)) (Or.inl ⟨rfl, rfl⟩) (sp := 0) (by decide) f2.nn f1.nn (by rw [f1.cl, e0]; omega) (by rw [f1.cl, f2.cl]; exact q2) hus (by rw [f1.cl, f2.cl]; simp) N ge hg hsize hs hd hf hW hlo
  refine ⟨T', h', L, X', e', N', K, ?_, st⟩
  have e1 : (ud ++ List.replicate vs.length (Value.int 0)).take dp.toNatClampNeg ++ vs ++ (ud ++ List.replicate vs.length (Value.int 0)).drop (dp.toNatClampNeg + nn.toNatClampNeg) = ud ++ vs := by
    rw [f1.cl, f2.cl]; simp
  rw [e1] at B'; exact B'
/-- arraycopy of a byte[]'s first nn, her list among them, into a new one -/
theorem own_cp0 (X : Stand p l e R s m args below meth c T locs cells slots) (hx : p.tables.exec = Jvm.exec) (hZ : Z.Warmed39 s.vm) {a0 : Array Value} {own : String} {index : Nat} (hown : s.vm.findClass own = some m.cls)
    (w1 : (Cond.methodLink own index Jvm.Stand.acN).before a0 Z = true) (w2 : (Cond.native Jvm.Stand.acN).before a0 Z = true) (w3 : (Cond.static Jvm.Stand.acN).before a0 Z = true) (w4 : (Cond.initialized "java/lang/System").before a0 Z = true) (eT : T.heap = h)
    {a b : Addr} {k k' : ClassId} {z z' nn : Int32} {vs : List Value} (A : Arv Z h a k .byte z vs (.int 0)) (B : Arv Z h b k' .byte z' [] (.int 0)) (q0 : vs.length ≤ nn.toNatClampNeg) (h3 : ¬ nn < 0) (q1 : nn.toNatClampNeg ≤ z.toNatClampNeg) (q2 : nn.toNatClampNeg ≤ z'.toNatClampNeg)
    {n0 : Nat} (N : Fr n0 locs) (ge : n0 ≤ b) {g : JFrame} (hg : g.method = m) (hsize : g.locals.size = c.maxLocals) {rest : List Value} (hs : g.stack = .int nn :: .int 0 :: .ref b :: .int 0 :: .ref a :: rest) (hd : decode c.code g.pc = .ok (.invokestatic index, 3))
    (hf : 1 ≤ R.frames) {W : Nat} (hW : 2 * g.monitorRoom + (rest.map fun v => v.category).sum ≤ W) (hlo : W + (nativeFrameWords "java/lang/System" "arraycopy" 5 + 11) ≤ R.locals) :
    ∃ T' h' L, Stand p l e R s m args below meth c T' L cells slots ∧ T'.heap = h' ∧ Fr n0 L ∧ Keep h h' [b] ∧ Arv Z h' b k' .byte z' vs (.int 0) ∧
      ∀ target, Steps p.tables e below (T'.setTop { g with pc := g.pc + 3, stack := rest }) target → Steps p.tables e below (T.setTop g) target := by
  have fl : (vs ++ List.replicate (nn.toNatClampNeg - vs.length) (Value.int 0)).length = nn.toNatClampNeg := by simp; omega
  have f1 : own_fit (vs ++ List.replicate (nn.toNatClampNeg - vs.length) (Value.int 0)) nn := by
    unfold own_fit; rw [fl]
    rw [Int32.lt_iff_toInt_lt] at h3; have e0 : (0 : Int32).toInt = 0 := rfl
    simp only [Int32.toNatClampNeg]; omega
  obtain ⟨T', h', L, X', e', N', K, B', st⟩ := own_cp X hx hZ hown w1 w2 w3 w4 eT (A.pad (pad_rep vs (.int 0) (nn.toNatClampNeg - vs.length))) B f1 (rfl : own_fit [] (0 : Int32)) (by rw [fl]; exact q1) (by rw [fl]; exact Nat.le_trans (Nat.le_of_eq (Nat.zero_add _)) q2) N ge hg hsize hs hd hf hW hlo
  exact ⟨T', h', L, X', e', N', K, B'.pad (fun i => (pad_rep vs (.int 0) (nn.toNatClampNeg - vs.length) i).symm), st⟩
end OwnSb
end Jvm.RoadKit
namespace Jvm.RoadKit
open Sem ClassFile Op Lib Jvm.Stand Jvm.Free Jvm.LawKit
def own_c16 (x : Int32) : Prop := 0 ≤ x.toInt ∧ x.toInt ≤ 65535
def own_lo (x : Int32) : Int32 := (x >>> ((0 : Int32) &&& 31)).toInt8.toInt32
def own_hi (x : Int32) : Int32 := (x >>> ((8 : Int32) &&& 31)).toInt8.toInt32
/-- a char[]'s values, a Latin-1 String's bytes, a UTF-16 String's bytes -/
def own_cv (cs : List Int32) : List Value := cs.map Value.int
def own_lb (cs : List Int32) : List Value := cs.map (fun x => Value.int x.toInt8.toInt32)
def own_u8 (cs : List Int32) : List Value := cs.flatMap (fun x => [Value.int (own_lo x), Value.int (own_hi x)])
def own_lat (cs : List Int32) : Prop := ∀ x ∈ cs, ¬ (255 : Int32) < x
theorem own_cvl (cs : List Int32) : (own_cv cs).length = cs.length := by unfold own_cv; simp
theorem own_lbl (cs : List Int32) : (own_lb cs).length = cs.length := by unfold own_lb; simp
theorem own_u8l (cs : List Int32) : (own_u8 cs).length = 2 * cs.length := by
  unfold own_u8
  induction cs with
  | nil => rfl
  | cons x xs ih => rw [List.flatMap_cons, List.length_append, ih, List.length_cons]; simp only [List.length_cons, List.length_nil]; omega
theorem own_u8a (xs ys : List Int32) : own_u8 (xs ++ ys) = own_u8 xs ++ own_u8 ys := by unfold own_u8; rw [List.flatMap_append]
theorem own_lba (xs ys : List Int32) : own_lb (xs ++ ys) = own_lb xs ++ own_lb ys := by unfold own_lb; rw [List.map_append]
/-- an index inside -/
def own_at (cs : List Int32) (ii xc : Int32) : Prop := 0 ≤ ii.toInt ∧ cs[ii.toNatClampNeg]? = some xc
theorem own_at.lt {cs : List Int32} {ii xc : Int32} (h : own_at cs ii xc) : ii.toNatClampNeg < cs.length := (List.getElem?_eq_some_iff.mp h.2).1
theorem own_at_of {cs : List Int32} {nn ii : Int32} (f : own_fit (own_cv cs) nn) (h0 : 0 ≤ ii.toInt) (h : ii < nn) : ∃ xc, own_at cs ii xc := by
  unfold own_fit at f; rw [own_cvl] at f
  rw [Int32.lt_iff_toInt_lt] at h
  have hl : ii.toNatClampNeg < cs.length := by simp only [Int32.toNatClampNeg]; omega
  exact ⟨cs[ii.toNatClampNeg], h0, List.getElem?_eq_getElem hl⟩
theorem own_at.cv {cs : List Int32} {ii xc : Int32} (h : own_at cs ii xc) : (own_cv cs).getD ii.toNatClampNeg (.int (0 : Int32)) = .int xc := by
  unfold own_cv; rw [List.getD_eq_getElem?_getD, List.getElem?_map, h.2]; rfl
theorem own_at.mem {cs : List Int32} {ii xc : Int32} (h : own_at cs ii xc) : xc ∈ cs := List.mem_of_getElem? h.2
theorem own_tk {cs : List Int32} {ii xc : Int32} (h : own_at cs ii xc) (hb : ii.toInt < 100000) : cs.take (ii + (1 : Int32)).toInt.toNat = cs.take ii.toInt.toNat ++ [xc] := by
  have c1 := c_iadd ii 1
  have c2 := rng32 (ii + 1)
  have e1 : (1 : Int32).toInt = 1 := rfl
  have h0 := h.1
  have e : (ii + (1 : Int32)).toInt.toNat = ii.toInt.toNat + 1 := by omega
  have e2 : ii.toNatClampNeg = ii.toInt.toNat := rfl
  have hl := h.lt
  rw [e2] at hl
  rw [e, List.take_add_one, ← e2, h.2]; rfl
/-- the loops' heads -/
def own_ci (cs : List Int32) (ii : Int32) : Prop := 0 ≤ ii.toInt ∧ ii.toInt ≤ cs.length ∧ cs.length ≤ 1000
theorem own_ci0 {cs : List Int32} (h : cs.length ≤ 1000) : own_ci cs (0 : Int32) := ⟨by decide, by show (0 : Int) ≤ _; omega, h⟩
theorem own_ciS {cs : List Int32} {ii xc : Int32} (H : own_ci cs ii) (h : own_at cs ii xc) : own_ci cs (ii + (1 : Int32)) := by
  obtain ⟨h1, h2, h3⟩ := H
  have hl := h.lt
  have e2 : ii.toNatClampNeg = ii.toInt.toNat := rfl
  have c1 := c_iadd ii 1
  have c2 := rng32 (ii + 1)
  have e1 : (1 : Int32).toInt = 1 := rfl
  exact ⟨by omega, by omega, h3⟩
theorem own_cim {cs : List Int32} {ii xc : Int32} (H : own_ci cs ii) (h : own_at cs ii xc) : cs.length - (ii + (1 : Int32)).toInt.toNat < cs.length - ii.toInt.toNat := by
  obtain ⟨h1, h2, h3⟩ := H
  have hl := h.lt
  have e2 : ii.toNatClampNeg = ii.toInt.toNat := rfl
  have c1 := c_iadd ii 1
  have c2 := rng32 (ii + 1)
  have e1 : (1 : Int32).toInt = 1 := rfl
  omega
theorem own_ciE {cs : List Int32} {nn ii : Int32} (f : own_fit (own_cv cs) nn) (H : own_ci cs ii) (h : ¬ ii < nn) : cs.take ii.toInt.toNat = cs := by
  unfold own_fit at f; rw [own_cvl] at f
  rw [Int32.lt_iff_toInt_lt] at h
  exact List.take_of_length_le (by omega)
theorem own_cin {cs : List Int32} {nn ii : Int32} (H : own_ci cs ii) (h : ii < nn) : ¬ ii < (0 : Int32) ∧ ii < nn := by
  refine ⟨?_, h⟩
  rw [Int32.lt_iff_toInt_lt]; have e0 : (0 : Int32).toInt = 0 := rfl
  have := H.1; omega
theorem own_tkl {cs : List Int32} {ii : Int32} (H : own_ci cs ii) : (cs.take ii.toInt.toNat).length = ii.toInt.toNat := by
  obtain ⟨h1, h2, h3⟩ := H
  rw [List.length_take]; omega
theorem own_set1 {us : List Value} {z v : Value} {j : Nat} (hj : j = us.length) : (us ++ List.replicate 1 z).set j v = us ++ [v] := by
  subst hj; rw [List.set_append_right _ _ (Nat.le_refl _)]; simp
theorem own_set2 {us : List Value} {z v w : Value} {i j : Nat} (hi : i = us.length) (hj : j = us.length + 1) : ((us ++ List.replicate 2 z).set i v).set j w = us ++ [v, w] := by
  subst hi hj
  rw [List.set_append_right _ _ (Nat.le_refl _), List.set_append_right _ _ (by omega)]
  have e : us.length + 1 - us.length = 1 := by omega
  rw [e, Nat.sub_self]; rfl
theorem own_dbl {xi : Int32} (h : 0 ≤ xi.toInt ∧ xi.toInt ≤ 1000) : (xi <<< ((1 : Int32) &&& 31)).toInt = 2 * xi.toInt := by
  have c1 := c_ishl xi 1 1 (by decide)
  have c2 := rng32 (xi <<< ((1 : Int32) &&& 31))
  have e : ((2 ^ 1 : Nat) : Int) = 2 := rfl
  rw [e] at c1
  omega
theorem own_u8g {cs : List Int32} {ii xc : Int32} {yi : Int32} (h : own_at cs ii xc) (hb : ii.toInt ≤ 1000) (e : yi.toInt = 2 * ii.toInt) : (own_u8 cs).getD yi.toNatClampNeg (.int (0 : Int32)) = .int (own_lo xc) ∧ (own_u8 cs).getD (yi + (1 : Int32)).toNatClampNeg (.int (0 : Int32)) = .int (own_hi xc) := by
  have key : ∀ (ys : List Int32) (k : Nat) (x : Int32), ys[k]? = some x → (own_u8 ys)[2 * k]? = some (.int (own_lo x)) ∧ (own_u8 ys)[2 * k + 1]? = some (.int (own_hi x)) := fun ys => by
    induction ys with
    | nil => intro k x q; simp at q
    | cons y ys ih =>
      intro k x q
      cases k with
      | zero => simp at q; subst q; exact ⟨rfl, rfl⟩
      | succ k =>
        have q' : ys[k]? = some x := by simpa using q
        obtain ⟨a, b⟩ := ih k x q'
        have e1 : 2 * (k + 1) = 2 * k + 1 + 1 := by omega
        have e2 : own_u8 (y :: ys) = .int (own_lo y) :: .int (own_hi y) :: own_u8 ys := rfl
        rw [e1, e2]
        exact ⟨by simpa using a, by simpa using b⟩
  have h0 := h.1
  have c1 := c_iadd yi 1
  have c2 := rng32 (yi + 1)
  have e1 : (1 : Int32).toInt = 1 := rfl
  obtain ⟨a, b⟩ := key cs ii.toNatClampNeg xc h.2
  have e3 : yi.toNatClampNeg = 2 * ii.toNatClampNeg := by simp only [Int32.toNatClampNeg]; omega
  have e4 : (yi + (1 : Int32)).toNatClampNeg = 2 * ii.toNatClampNeg + 1 := by simp only [Int32.toNatClampNeg]; omega
  rw [e3, e4, List.getD_eq_getElem?_getD, List.getD_eq_getElem?_getD, a, b]
  exact ⟨rfl, rfl⟩
def own_gch (x : Int32) : Int32 := nar .char (((((own_lo x) &&& (255 : Int32)) <<< ((0 : Int32) &&& 31)) ||| (((own_hi x) &&& (255 : Int32)) <<< ((8 : Int32) &&& 31))).toUInt32.toUInt16.toUInt32.toInt32)
theorem own_nonneg {x : Int32} (h : 0 ≤ x.toInt) : x.toBitVec.toNat = x.toInt.toNat := by
  have e : x.toInt = x.toBitVec.toInt := rfl
  have l := x.toBitVec.isLt
  rw [e, BitVec.toInt_eq_toNat_cond] at h ⊢
  split at h <;> split <;> omega
theorem own_gc {x : Int32} (h : own_c16 x) : own_gch x = x := by
  obtain ⟨h1, h2⟩ := h
  have a1 := c_i2b (x >>> ((0 : Int32) &&& 31))
  have a2 := c_ishr x 0 0 (by decide)
  have a3 := c_mask (own_lo x) 255 8 (by decide) (by decide)
  have b1 := c_i2b (x >>> ((8 : Int32) &&& 31))
  have b2 := c_ishr x 8 8 (by decide)
  have b3 := c_mask (own_hi x) 255 8 (by decide) (by decide)
  have z0 : ((2 ^ 0 : Nat) : Int) = 1 := rfl
  have z8 : ((2 ^ 8 : Nat) : Int) = 256 := rfl
  rw [z0] at a2; rw [z8] at a3 b2 b3
  have l1 : (own_lo x &&& (255 : Int32)).toInt = x.toInt % 256 := by rw [a3]; unfold own_lo; omega
  have l2 : (own_hi x &&& (255 : Int32)).toInt = x.toInt / 256 := by rw [b3]; unfold own_hi; omega
  generalize hA : own_lo x &&& (255 : Int32) = A at l1
  generalize hB : own_hi x &&& (255 : Int32) = B at l2
  have c1 := c_ishl A 0 0 (by decide)
  have c2 := c_ishl B 8 8 (by decide)
  rw [z0] at c1; rw [z8] at c2
  have r1 := rng32 (A <<< ((0 : Int32) &&& 31))
  have r2 := rng32 (B <<< ((8 : Int32) &&& 31))
  have m1 : (A <<< ((0 : Int32) &&& 31)).toInt = x.toInt % 256 := by omega
  have m2 : (B <<< ((8 : Int32) &&& 31)).toInt = 256 * (x.toInt / 256) := by omega
  have n1 := own_nonneg (x := A <<< ((0 : Int32) &&& 31)) (by omega)
  have n2 := own_nonneg (x := B <<< ((8 : Int32) &&& 31)) (by omega)
  have n3 := own_nonneg (x := x) h1
  have key : ((A <<< ((0 : Int32) &&& 31)) ||| (B <<< ((8 : Int32) &&& 31))) = x := by
    apply Int32.toBitVec_inj.mp
    apply BitVec.eq_of_toNat_eq
    show ((A <<< ((0 : Int32) &&& 31)).toBitVec ||| (B <<< ((8 : Int32) &&& 31)).toBitVec).toNat = _
    rw [BitVec.toNat_or, n1, n2, n3, m1, m2]
    have q := Nat.shiftLeft_add_eq_or_of_lt (i := 8) (b := x.toInt.toNat % 256) (by omega) (x.toInt.toNat / 256)
    rw [Nat.shiftLeft_eq] at q
    have e1 : (x.toInt % 256).toNat = x.toInt.toNat % 256 := by omega
    have e2 : (256 * (x.toInt / 256)).toNat = x.toInt.toNat / 256 * 2 ^ 8 := by omega
    rw [e1, e2, Nat.or_comm, ← q]; omega
  unfold own_gch
  rw [hA, hB, key]
  have d := c_i2c x
  have d2 := c_i2c (x.toUInt32.toUInt16.toUInt32.toInt32)
  apply Int32.toInt_inj.mp
  show (x.toUInt32.toUInt16.toUInt32.toInt32.toUInt32.toUInt16.toUInt32.toInt32).toInt = _
  omega
theorem own_b255 {x : Int32} (h : own_c16 x) (q : ¬ (255 : Int32) < x) : (x.toInt8.toInt32 &&& (255 : Int32)) = x := by
  have t : ∀ a : Fin 256, ((Int32.ofNat a.val).toInt8.toInt32 &&& (255 : Int32)) = Int32.ofNat a.val := by decide +kernel
  obtain ⟨h1, h2⟩ := h
  rw [Int32.lt_iff_toInt_lt] at q; have e5 : (255 : Int32).toInt = 255 := rfl
  have e : x = Int32.ofNat x.toInt.toNat := by
    apply Int32.toInt_inj.mp
    rw [Int32.toInt_ofNat_small (by omega)]; omega
  rw [e]; exact t ⟨x.toInt.toNat, by omega⟩
theorem own_cd0 (nn : Int32) : ((((nn - nn).toUInt32 >>> ((31 : Int32) &&& 31).toUInt32).toInt32).toInt8.toInt32) = 0 := by
  have e : nn - nn = 0 := by simp
  rw [e]; decide
theorem own_cd1 {nn nx : Int32} (h1 : 0 < nn.toInt) (h2 : nn.toInt ≤ 1000) (h : nx.toInt = 2 * nn.toInt) : ((((nn - nx).toUInt32 >>> ((31 : Int32) &&& 31).toUInt32).toInt32).toInt8.toInt32) = 1 := by
  have c0 := c_isub nn nx
  have c1 := rng32 (nn - nx)
  have c2 := c_iushr (nn - nx) 31 31 (by decide) (by decide)
  have e : ((2 ^ 31 : Nat) : Int) = 2147483648 := rfl
  rw [e] at c2
  have c3 : (((nn - nx).toUInt32 >>> ((31 : Int32) &&& 31).toUInt32).toInt32) = 1 := Int32.toInt_inj.mp (by rw [c2]; show _ = (1 : Int); omega)
  rw [c3]; decide
theorem own_b2 (x : Int32) : x.toInt8.toInt32.toInt8.toInt32 = x.toInt8.toInt32 := by simp
theorem own_nb {xn : Int32} (h : 0 ≤ xn.toInt ∧ xn.toInt ≤ 34) : ¬ (xn <<< ((1 : Int32) &&& 31)) < (0 : Int32) ∧ (xn <<< ((1 : Int32) &&& 31)).toNatClampNeg ≤ 68 := by
  have d := own_dbl (xi := xn) ⟨h.1, by omega⟩
  rw [Int32.lt_iff_toInt_lt]; have e0 : (0 : Int32).toInt = 0 := rfl
  refine ⟨by omega, ?_⟩
  simp only [Int32.toNatClampNeg]; omega
theorem own_j2 {xi yi cp : Int32} {ul : Nat} (hy : yi.toInt = 2 * xi.toInt) (hx : 0 ≤ xi.toInt ∧ xi.toInt ≤ 1000) (hu : (ul : Int) = 2 * xi.toInt) (hr : (ul : Int) + 2 ≤ cp.toInt) : (¬ yi < (0 : Int32) ∧ yi < cp) ∧ yi.toNatClampNeg = ul ∧ (¬ (yi + (1 : Int32)) < (0 : Int32) ∧ (yi + (1 : Int32)) < cp) ∧ (yi + (1 : Int32)).toNatClampNeg = ul + 1 := by
  have e0 : (0 : Int32).toInt = 0 := rfl
  have e1 : (1 : Int32).toInt = 1 := rfl
  have c1 := c_iadd yi 1
  have c2 := rng32 (yi + 1)
  rw [Int32.lt_iff_toInt_lt, Int32.lt_iff_toInt_lt, Int32.lt_iff_toInt_lt, Int32.lt_iff_toInt_lt]
  simp only [Int32.toNatClampNeg]
  omega
theorem own_u8t {cs : List Int32} {ii : Int32} (H : own_ci cs ii) : ((own_u8 (cs.take ii.toInt.toNat)).length : Int) = 2 * ii.toInt := by
  rw [own_u8l, own_tkl H]; have := H.1; omega
theorem own_rm2 {cs : List Int32} {ii nn n2 : Int32} (H : own_ci cs ii) (h : ii < nn) (e : n2.toInt = 2 * nn.toInt) : ((own_u8 (cs.take ii.toInt.toNat)).length : Int) + 2 ≤ n2.toInt := by
  rw [own_u8t H]; rw [Int32.lt_iff_toInt_lt] at h; omega
theorem own_ilt {nn : Int32} (h : 0 ≤ nn.toInt ∧ nn.toInt ≤ 34) : ¬ (nn < (0 : Int32)) ∧ nn < (1073741823 : Int32) := by
  rw [Int32.lt_iff_toInt_lt, Int32.lt_iff_toInt_lt]
  have e0 : (0 : Int32).toInt = 0 := rfl
  have e1 : (1073741823 : Int32).toInt = 1073741823 := rfl
  omega
theorem own_n34 {cs : List Int32} {nn : Int32} (f : own_fit (own_cv cs) nn) (h : cs.length ≤ 34) : 0 ≤ nn.toInt ∧ nn.toInt ≤ 34 := by
  unfold own_fit at f; rw [own_cvl] at f; omega
theorem own_cilt {cs : List Int32} {ii : Int32} (H : own_ci cs ii) : ii.toInt < 100000 := by have := H.2.1; have := H.2.2; omega
theorem own_atle {cs : List Int32} {ii xc : Int32} (h : own_at cs ii xc) (hl : cs.length ≤ 34) : 0 ≤ ii.toInt ∧ ii.toInt ≤ 1000 := by
  have h0 := h.1
  have q := h.lt
  have e2 : ii.toNatClampNeg = ii.toInt.toNat := rfl
  omega
/-- compress's loop -/
theorem own_lbt {cs : List Int32} {ii : Int32} (H : own_ci cs ii) : (own_lb (cs.take ii.toInt.toNat)).length = ii.toNatClampNeg := by
  rw [own_lbl, own_tkl H]; rfl
theorem own_latS {cs : List Int32} {ii xc : Int32} (hat : own_at cs ii xc) (hb : ii.toInt < 100000) (H : own_lat (cs.take ii.toInt.toNat)) (q : ¬ (255 : Int32) < xc) : own_lat (cs.take (ii + (1 : Int32)).toInt.toNat) := by
  rw [own_tk hat hb]
  intro x hx
  rcases List.mem_append.mp hx with h | h
  · exact H x h
  · cases List.mem_singleton.mp h; exact q
theorem own_lat0 : own_lat [] := fun x h => nomatch h
theorem own_hit {cs : List Int32} {ii xc : Int32} (hat : own_at cs ii xc) (q : (255 : Int32) < xc) : ¬ own_lat cs := fun h => h xc hat.mem q
theorem own_iine {cs : List Int32} {ii nn xc : Int32} (f : own_fit (own_cv cs) nn) (hat : own_at cs ii xc) : ¬ (ii = nn) := fun e => by
  unfold own_fit at f; rw [own_cvl] at f
  have q := hat.lt
  have h0 := hat.1
  have e2 : ii.toNatClampNeg = ii.toInt.toNat := rfl
  rw [e] at q h0 e2; omega
theorem own_lbat {cs : List Int32} {ii xc : Int32} (h : own_at cs ii xc) : (own_lb cs).getD ii.toNatClampNeg (.int (0 : Int32)) = .int (xc.toInt8.toInt32) := by
  unfold own_lb; rw [List.getD_eq_getElem?_getD, List.getElem?_map, h.2]; rfl
theorem own_in34 {ii : Int32} (h : ¬ ii < (0 : Int32) ∧ ii < (31 : Int32)) : ¬ ii < (0 : Int32) ∧ ii < (34 : Int32) := by
  obtain ⟨h1, h2⟩ := h
  refine ⟨h1, ?_⟩
  rw [Int32.lt_iff_toInt_lt] at h2 ⊢
  have e1 : (31 : Int32).toInt = 31 := rfl
  have e2 : (34 : Int32).toInt = 34 := rfl
  omega
theorem own_l31 {cs : List Int32} (f : own_fit (own_cv cs) (31 : Int32)) : cs.length ≤ 1000 := by
  unfold own_fit at f; rw [own_cvl] at f
  have e1 : (31 : Int32).toInt = 31 := rfl
  omega
theorem own_f62 {cs : List Int32} (f : own_fit (own_cv cs) (31 : Int32)) : own_fit (own_u8 cs) (62 : Int32) := by
  unfold own_fit at f ⊢; rw [own_cvl] at f; rw [own_u8l]
  have e1 : (31 : Int32).toInt = 31 := rfl
  have e2 : (62 : Int32).toInt = 62 := rfl
  omega
theorem own_lata {xs ys : List Int32} (h : own_lat xs) : own_lat (xs ++ ys) ↔ own_lat ys := by
  constructor
  · intro q x hx; exact q x (List.mem_append_right _ hx)
  · intro q x hx; exact (List.mem_append.mp hx).elim (h x) (q x)
theorem own_nar16 {x : Int32} (h : own_c16 x) : nar .char x = x := by
  obtain ⟨h1, h2⟩ := h
  have d := c_i2c x
  apply Int32.toInt_inj.mp
  show (x.toUInt32.toUInt16.toUInt32.toInt32).toInt = _
  omega
theorem own_i16 (x : Int32) : own_c16 (x.toUInt32.toUInt16.toUInt32.toInt32) := by
  have d := c_i2c x
  exact ⟨by omega, by omega⟩
theorem own_all3 {a b d : Int32} (h1 : own_c16 a) (h2 : own_c16 b) (h3 : own_c16 d) : ∀ x ∈ [a, b, d], own_c16 x := by
  intro x hx
  simp only [List.mem_cons, List.not_mem_nil, or_false] at hx
  rcases hx with rfl | rfl | rfl
  · exact h1
  · exact h2
  · exact h3
end Jvm.RoadKit
namespace Jvm.Pilot.@@N@@
open Jvm Jvm.ClassFile Sem Op Lib Jvm.Free Jvm.Stand Jvm.LawKit Jvm.RoadKit Bundle Jvm.Pilot.@@N@@.Jvm.D
theorem own_go {tb : Tables} {e : Env} {below : List Frame} {A B : State} {P : State → Outcome → Prop} (st : ∀ t, Steps tb e below B t → Steps tb e below A t) (k : ∃ t o, Steps tb e below B t ∧ P t o) : ∃ t o, Steps tb e below A t ∧ P t o := by
  obtain ⟨t, o, h1, h2⟩ := k
  exact ⟨t, o, st t h1, h2⟩
theorem own_goT {tb : Tables} {e : Env} {below : List Frame} {A B : State} {P : State → Outcome → Prop} (st : Steps tb e below A B) (k : ∃ t o, Steps tb e below B t ∧ P t o) : ∃ t o, Steps tb e below A t ∧ P t o := by
  obtain ⟨t, o, h1, h2⟩ := k
  exact ⟨t, o, st.trans h1, h2⟩
theorem own_nameP {tb : Tables} {e : Env} {below : List Frame} {A : State} {Q : State → Outcome → Prop} (k : ∀ P : State → Outcome → Prop, P = Q → ∃ t o, Steps tb e below A t ∧ P t o) : ∃ t o, Steps tb e below A t ∧ Q t o := k Q rfl
theorem own_nfo {args : Array Value} {s : State} {C : String} {x y z : MethodName} (hsel : (Jvm.Cond.selects C x z).before args s = true) (e : z.cls = y.cls) : NotFace s y := fun r0 h0 => by
  obtain ⟨c2, r2, m2, q1, q2, q3, q4, kP, hkP, hkPi⟩ := Cond.selects_spec hsel
  have a1 := findClass_of_methodNamed q3
  have a2 := findClass_of_methodNamed h0
  rw [e] at a1
  have e2 := Option.some.inj (a1.symm.trans a2)
  exact ⟨kP, by rw [← e2]; exact hkP, hkPi⟩
theorem own_ifc {α : Type} {P R : Prop} [Decidable P] [Decidable R] (a b : α) (h : P ↔ R) : (if P then a else b) = (if R then a else b) := by
  by_cases q : P
  · rw [if_pos q, if_pos (h.mp q)]
  · rw [if_neg q, if_neg fun r => q (h.mpr r)]
theorem own_ne {a b : Nat} (h : a < b ∨ b < a) : a ≠ b := by omega
theorem own_ltn {a n : Nat} (h : a < n) : a < n := h
theorem own_keep_le {h h' : Heap} {ws : List Addr} (K : Keep h h' ws) : h.size ≤ h'.size := K.1
def own_EL : List (String × Nat) := [("java/lang/String", 7), ("com/example/earnest_roster/earnestroster/ApiError", 16), ("com/example/earnest_roster/earnestroster/ApiError", 34), ("com/example/earnest_roster/earnestroster/ApiErrorNoImportWithIdPinLaw", 18), ("com/example/earnest_roster/earnestroster/ApiErrorNoImportWithIdPinLaw", 31)]
theorem own_mem0 : (("java/lang/String", 7) : String × Nat) ∈ own_EL := List.mem_of_getElem? (i := 0) rfl
theorem own_mem1 : (("com/example/earnest_roster/earnestroster/ApiError", 16) : String × Nat) ∈ own_EL := List.mem_of_getElem? (i := 1) rfl
theorem own_mem2 : (("com/example/earnest_roster/earnestroster/ApiError", 34) : String × Nat) ∈ own_EL := List.mem_of_getElem? (i := 2) rfl
theorem own_mem3 : (("com/example/earnest_roster/earnestroster/ApiErrorNoImportWithIdPinLaw", 18) : String × Nat) ∈ own_EL := List.mem_of_getElem? (i := 3) rfl
theorem own_mem4 : (("com/example/earnest_roster/earnestroster/ApiErrorNoImportWithIdPinLaw", 31) : String × Nat) ∈ own_EL := List.mem_of_getElem? (i := 4) rfl
def own_nf : List Value := [(.int (110 : Int32)), (.int (111 : Int32)), (.int (116 : Int32)), (.int (95 : Int32)), (.int (102 : Int32)), (.int (111 : Int32)), (.int (117 : Int32)), (.int (110 : Int32)), (.int (100 : Int32))]
def own_pre : List Int32 := [(116 : Int32), (104 : Int32), (101 : Int32), (114 : Int32), (101 : Int32), (32 : Int32), (105 : Int32), (115 : Int32), (32 : Int32), (110 : Int32), (111 : Int32), (32 : Int32), (105 : Int32), (109 : Int32), (112 : Int32), (111 : Int32), (114 : Int32), (116 : Int32), (32 : Int32), (119 : Int32), (105 : Int32), (116 : Int32), (104 : Int32), (32 : Int32), (116 : Int32), (104 : Int32), (101 : Int32), (32 : Int32), (105 : Int32), (100 : Int32), (32 : Int32)]
theorem own_preL : own_lat own_pre := by unfold own_lat own_pre; decide
theorem own_pre16 : ∀ x ∈ own_pre, own_c16 x := by unfold own_c16 own_pre; decide
theorem own_prel : (own_lb own_pre).length = 31 := rfl
theorem own_all34 {ys : List Int32} (h : ∀ x ∈ ys, own_c16 x) : ∀ x ∈ own_pre ++ ys, own_c16 x := fun x hx => (List.mem_append.mp hx).elim (own_pre16 x) (h x)
theorem own_safe_or {Z : State} {EL : List (String × Nat)} {vm : Vm} {h : Heap} {x y : Nat} (q : x = y ∨ h.size ≤ x) (S : Safe Z EL vm h y) : Safe Z EL vm h x := by
  rcases q with q | q
  · rw [q]; exact S
  · exact Safe.new q
theorem own_c34 {cp : Int32} (h : own_cap ([] ++ own_lb own_pre) cp) (q : cp = (16 : Int32) ∨ cp.toInt = 2 * (16 : Int32).toInt + 2) : cp = (34 : Int32) := by
  obtain ⟨h1, h2, h3⟩ := h
  have e : ([] ++ own_lb own_pre : List Value).length = 31 := rfl
  have e16 : (16 : Int32).toInt = 16 := rfl
  rw [e] at h1
  apply Int32.toInt_inj.mp
  show cp.toInt = 34
  rcases q with q | q
  · rw [q] at h1; rw [e16] at h1; omega
  · rw [e16] at q; omega
def own_rg (c : Int32) : Prop := ¬ c < 0 ∧ ¬ (255 : Int32) < c
theorem own_fin {P : Int32 → Prop} (h : ∀ k : Fin 256, P (Int32.ofNat k.val)) {c : Int32} (r : own_rg c) : P c := by
  obtain ⟨r1, r2⟩ := r
  rw [Int32.lt_iff_toInt_lt] at r1 r2
  have e0 : (0 : Int32).toInt = 0 := rfl
  have e1 : (255 : Int32).toInt = 255 := rfl
  have e : c = Int32.ofNat c.toInt.toNat := by
    apply Int32.toInt_inj.mp
    rw [Int32.toInt_ofNat_small (by omega)]; omega
  rw [e]; exact h ⟨c.toInt.toNat, by omega⟩
theorem own_back {c : Int32} (r : own_rg c) : nar .char (((c.toInt8.toInt32) &&& (255 : Int32)).toUInt32.toUInt16.toUInt32.toInt32) = c := own_fin (P := fun c => nar .char (((c.toInt8.toInt32) &&& (255 : Int32)).toUInt32.toUInt16.toUInt32.toInt32) = c) (by decide +kernel) r
theorem own_narc {c : Int32} (r : own_rg c) : nar .char c = c := own_fin (P := fun c => nar .char c = c) (by decide +kernel) r

theorem ef_rmCoder (m : MethodId) (x0 : Nat) : entryFrame m #[(.ref x0)] 1 = mkF m 0 #[.val (.ref x0)] [] := by first | (simp [entryFrame, mkF, argsToLocals, Value.category]; done) | rfl
theorem d13_0 : decode jdk_42_method_152_code 0 = .ok (.getstatic 38, 3) := by decide +kernel
theorem d13_3 : decode jdk_42_method_152_code 3 = .ok (.ifCond .eq 10, 3) := by decide +kernel
theorem d13_6 : decode jdk_42_method_152_code 6 = .ok (.aload_n 0, 1) := by decide +kernel
theorem d13_7 : decode jdk_42_method_152_code 7 = .ok (.getfield 15, 3) := by decide +kernel
theorem d13_10 : decode jdk_42_method_152_code 10 = .ok (.goto 4, 3) := by decide +kernel
theorem d13_14 : decode jdk_42_method_152_code 14 = .ok (.ireturn, 1) := by decide +kernel
theorem pn_java_lang_String : plainName "java/lang/String" = true := by first | (simp [plainName, overriddenIn]; done) | decide +kernel
def Q_rmCoder (Z : State) (so : Nat) (zc : Int32) (h0 : Heap) (n0 : Nat) (v : Option Value) (h : Heap) (L : List Loc) : Prop := v = some (.int (0 : Int32)) ∧ Fr n0 L ∧ h = h0
set_option maxRecDepth 65536 in
set_option maxHeartbeats 40000000 in
theorem rmCoder (l : Launch) (Z : State) (a0 : Array Value) (hw : ∀ d ∈ tables_1, d.before a0 Z = true) (ws : List Jvm.Cond) (so : Nat) (zc : Int32) (h0 : Heap) (n0 : Nat) (Z0 : n0 ≤ h0.size) (P1 : Fld Z h0 so "java/lang/String" "coder" "B" (.int (0 : Int32))) (OLD : Old Z n0 h0) (P2 : Sta Z Z.heap "java/lang/String" "COMPACT_STRINGS" "Z" (.int zc)) (hzc : ¬ (zc = (0 : Int32))) :
    MetFree l (⟨"java/lang/String", "coder", "()B"⟩ : MethodName) (head1 (Jvm.Cond.code (⟨"java/lang/String", "coder", "()B"⟩ : MethodName) jdk_42_method_152_code 1 (some .byte) :: ws) ({ frames := 0, cells := 0, slots := 0, locals := 0 } : Room)) (fun a U => a = #[(.ref so)] ∧ Z.Warmed39 U.vm ∧ U.heap = h0) (fun _ _ _ _ _ => True) (fun _ U o U' => ∃ v L, o = .returned v ∧ Q_rmCoder Z so zc h0 n0 v U'.heap L ∧ FrameEnd U o U' L ({ frames := 0, cells := 0, slots := 0, locals := 0 } : Room).cells ({ frames := 0, cells := 0, slots := 0, locals := 0 } : Room).slots) := by
  refine MetFree.of_bodySF (plainFor_of_name pn_java_lang_String) hisR ?_
  intro p e s m args below meth c s₁ Bd hml0 hP hK
  obtain ⟨rfl, hZ, hh⟩ := hP
  have hx := Bd.exec
  have hby := Bd.bytes
  have hml : c.maxLocals = 1 := hml0
  have hown : s.vm.findClass "java/lang/String" = some m.cls := findClass_of_methodNamed Bd.named
  have hnm := (name_of_methodNamed Bd.named Bd.method).1
  have X0 : Stand p l e ({ frames := 0, cells := 0, slots := 0, locals := 0 } : Room) s m #[(.ref so)] below meth c s₁ [] 0 0 := Stand.of_body Bd
  have e0 : s₁.heap = h0 := by rw [← hh, Bd.state]; rfl
  have N0 := Fr.nil n0
  have pre0 : ∀ t, Steps p.tables e below (s₁.setTop (mkF m 0 #[.val (.ref so)] [])) t → Steps p.tables e below (s₁.setTop (entryFrame m #[(.ref so)] 1)) t := fun t k => castTop (ef_rmCoder m so) k
  have oz := OLD.1
  have lt_so : so < h0.size := P1.lt
  refine own_go (B := s₁.setTop (mkF m 0 #[.val (.ref so)] [])) pre0 ?_
  show ∃ t o, Steps p.tables e below (s₁.setTop (mkF m 0 #[.val (.ref so)] [])) t ∧ _
  obtain ⟨T3, X3, e3, st3⟩ := getS2 X0 hx hZ hown (host := "") (Or.inl (hw _ (List.mem_of_getElem? (i := 14) rfl))) Via.refl e0 (Sta.ext OLD.2 P2) (g := (mkF m 0 #[.val (.ref so)] [])) rfl (hb hby d13_0)
  refine own_go st3 ?_
  show ∃ t o, Steps p.tables e below (T3.setTop (mkF m 3 #[.val (.ref so)] [(.int zc)])) t ∧ _
  refine own_go (fun _ => XS.ifNo X3.here hx rfl (hb hby d13_3) rfl ((if0 _ _).trans (feq hzc).1)) ?_
  refine own_go (fun _ => XS.aloadN X3.here hx rfl (hb hby d13_6) rfl rfl) ?_
  obtain ⟨T4, X4, e4, st4⟩ := getF X3 hx hZ hown (host := "") (Or.inl (hw _ (List.mem_of_getElem? (i := 26) rfl))) Via.refl e3 P1 (g := (mkF m 7 #[.val (.ref so)] [(.ref so)])) rfl rfl (hb hby d13_7)
  refine own_go st4 ?_
  refine own_go (fun _ => XS.goto X4.here hx rfl (pc0 := 10) (pc' := 14) rfl (hb hby d13_10) (by decide) (by decide)) ?_
  show ∃ t o, Steps p.tables e below (T4.setTop (mkF m 14 #[.val (.ref so)] [(.int (0 : Int32))])) t ∧ _
  obtain ⟨fs, hr, hrun, hended, hW, hsame⟩ := X4.leave (v := some (.int (0 : Int32))) (fun h => by rw [Bd.returns] at h; cases h)
  refine ⟨_, _, ?_, hrun, hended, _, _, rfl, ?_, ⟨_, rfl⟩, hW, hsame.mono (by decide) (by decide)⟩
  · exact retN X4 hx (t := .byte) Bd.returns (by simp) (hb hby d13_14) hr
  · show Q_rmCoder Z _ _ h0 n0 _ T4.heap _
    rw [e4]
    exact ⟨rfl, N0, rfl⟩
theorem ef_rmLenG (m : MethodId) (x0 : Nat) : entryFrame m #[(.ref x0)] 1 = mkF m 0 #[.val (.ref x0)] [] := by first | (simp [entryFrame, mkF, argsToLocals, Value.category]; done) | rfl
theorem d12_0 : decode jdk_42_method_54_code 0 = .ok (.aload_n 0, 1) := by decide +kernel
theorem d12_1 : decode jdk_42_method_54_code 1 = .ok (.getfield 9, 3) := by decide +kernel
theorem d12_4 : decode jdk_42_method_54_code 4 = .ok (.arraylength, 1) := by decide +kernel
theorem d12_5 : decode jdk_42_method_54_code 5 = .ok (.aload_n 0, 1) := by decide +kernel
theorem d12_6 : decode jdk_42_method_54_code 6 = .ok (.invokevirtual 335, 3) := by decide +kernel
theorem pd__28_29B : parseMethodDescriptor "()B" = some ⟨[], some .byte⟩ := by decide +kernel
theorem d12_9 : decode jdk_42_method_54_code 9 = .ok (.ishr, 1) := by decide +kernel
theorem d12_10 : decode jdk_42_method_54_code 10 = .ok (.ireturn, 1) := by decide +kernel
def Q_rmLenG (Z : State) (so : Nat) (tb : Nat) (kb : ClassId) (nn : Int32) (vs : List Value) (zc : Int32) (h0 : Heap) (n0 : Nat) (v : Option Value) (h : Heap) (L : List Loc) : Prop := v = some (.int nn) ∧ Fr n0 L ∧ h = h0
set_option maxRecDepth 65536 in
set_option maxHeartbeats 40000000 in
theorem rmLenG (l : Launch) (Z : State) (a0 : Array Value) (hw : ∀ d ∈ tables_1, d.before a0 Z = true) (ws : List Jvm.Cond) (so : Nat) (tb : Nat) (kb : ClassId) (nn : Int32) (vs : List Value) (zc : Int32) (h0 : Heap) (n0 : Nat) (Z0 : n0 ≤ h0.size) (P1 : Exa Z h0 so "java/lang/String") (P2 : Fld Z h0 so "java/lang/String" "value" "[B" (.ref tb)) (P3 : Fld Z h0 so "java/lang/String" "coder" "B" (.int (0 : Int32))) (P4 : Arv Z h0 tb kb .byte nn vs (.int (0 : Int32))) (OLD : Old Z n0 h0) (P5 : Sta Z Z.heap "java/lang/String" "COMPACT_STRINGS" "Z" (.int zc)) (hzc : ¬ (zc = (0 : Int32))) :
    MetFree l (⟨"java/lang/String", "length", "()I"⟩ : MethodName) (head1 (Jvm.Cond.code (⟨"java/lang/String", "length", "()I"⟩ : MethodName) jdk_42_method_54_code 1 (some .int) :: ws) ({ frames := 1, cells := 0, slots := 0, locals := 13 } : Room)) (fun a U => a = #[(.ref so)] ∧ Z.Warmed39 U.vm ∧ U.heap = h0) (fun _ _ _ _ _ => True) (fun _ U o U' => ∃ v L, o = .returned v ∧ Q_rmLenG Z so tb kb nn vs zc h0 n0 v U'.heap L ∧ FrameEnd U o U' L ({ frames := 1, cells := 0, slots := 0, locals := 13 } : Room).cells ({ frames := 1, cells := 0, slots := 0, locals := 13 } : Room).slots) := by
  refine MetFree.of_bodySF (plainFor_of_name pn_java_lang_String) hisR ?_
  intro p e s m args below meth c s₁ Bd hml0 hP hK
  obtain ⟨rfl, hZ, hh⟩ := hP
  have hx := Bd.exec
  have hby := Bd.bytes
  have hml : c.maxLocals = 1 := hml0
  have hown : s.vm.findClass "java/lang/String" = some m.cls := findClass_of_methodNamed Bd.named
  have hnm := (name_of_methodNamed Bd.named Bd.method).1
  have X0 : Stand p l e ({ frames := 1, cells := 0, slots := 0, locals := 13 } : Room) s m #[(.ref so)] below meth c s₁ [] 0 0 := Stand.of_body Bd
  have e0 : s₁.heap = h0 := by rw [← hh, Bd.state]; rfl
  have N0 := Fr.nil n0
  have pre0 : ∀ t, Steps p.tables e below (s₁.setTop (mkF m 0 #[.val (.ref so)] [])) t → Steps p.tables e below (s₁.setTop (entryFrame m #[(.ref so)] 1)) t := fun t k => castTop (ef_rmLenG m so) k
  have w_76 := hw _ (List.mem_of_getElem? (i := 76) rfl)
  have oz := OLD.1
  have lt_so : so < h0.size := P1.lt
  have lt_tb : tb < h0.size := P4.lt
  refine own_go (B := s₁.setTop (mkF m 0 #[.val (.ref so)] [])) pre0 ?_
  show ∃ t o, Steps p.tables e below (s₁.setTop (mkF m 0 #[.val (.ref so)] [])) t ∧ _
  refine own_go (fun _ => XS.aloadN X0.here hx rfl (hb hby d12_0) rfl rfl) ?_
  obtain ⟨T6, X6, e6, st6⟩ := getF X0 hx hZ hown (host := "") (Or.inl (hw _ (List.mem_of_getElem? (i := 28) rfl))) Via.refl e0 P2 (g := (mkF m 1 #[.val (.ref so)] [(.ref so)])) rfl rfl (hb hby d12_1)
  refine own_go st6 ?_
  obtain ⟨cl7, Ar7, q7, S7, N7, H7, G7⟩ := id P4
  have ln7 : cl7.slots.size.toInt32 = nn := len_of S7 N7
  have al7 := X6.arraylength hx (by rw [e6]; exact Ar7.1) (State.isArrayOf_alike hZ.alike Ar7.2.1) (g := (mkF m 4 #[.val (.ref so)] [(.ref tb)])) rfl rfl (hb hby d12_4)
  rw [ln7] at al7
  refine own_go al7 ?_
  refine own_go (fun _ => XS.aloadN X6.here hx rfl (hb hby d12_5) rfl rfl) ?_
  show ∃ t o, Steps p.tables e below (T6.setTop (mkF m 6 #[.val (.ref so)] [(.ref so), (.int nn)])) t ∧ _
  obtain ⟨cq8, kq8, q8a, q8b, q8c⟩ := isOf hZ e6 P1
  obtain ⟨_, _, ⟨T8, L8, k8, n8⟩, -, X8, ⟨Lc8, hQ8, l8, y8, z8⟩, st8⟩ := X6.virtualBack hx (y := (⟨"java/lang/String", "coder", "()B"⟩ : MethodName)) (z := (⟨"java/lang/String", "coder", "()B"⟩ : MethodName)) hown (mvT hZ (hw _ (List.mem_of_getElem? (i := 73) rfl))) (mvT hZ (hw _ (List.mem_of_getElem? (i := 74) rfl))) (notFace_of_selects (args := #[]) (mvT hZ w_76)) (mvT hZ w_76) (mvT hZ (hw _ (List.mem_of_getElem? (i := 75) rfl))) (by decide) (backOf (W := 1) (rmCoder l Z a0 hw [] so zc h0 n0 Z0 P3 OLD P5 hzc) hZ (hw _ (List.mem_of_getElem? (i := 77) rfl)) (hw _ (List.mem_of_getElem? (i := 2) rfl)) (by decide) (by decide)) q8a q8c (g := (mkF m 6 #[.val (.ref so)] [(.ref so), (.int nn)])) rfl (by rw [hml]; rfl) (Steps.refl _) (argsL := []) (rest := [(.int nn)]) (lenOf pd__28_29B rfl) rfl (by show 2 * 0 + _ ≤ _; exact Nat.le_of_eq rfl) (hb hby d12_6) (fun _ _ => ⟨rfl, e6, (by decide : 0 + 0 ≤ _), (by decide : 0 + 0 ≤ _)⟩)
  dsimp only [Pt.U, Pt.locs, Pt.cells, Pt.slots] at X8 l8 y8 z8 st8 hQ8
  rw [l8, y8, z8] at X8
  obtain ⟨rfl, Nq8, e8⟩ := hQ8
  have N8 := Fr.app N0 Nq8
  refine own_goT st8 ?_
  refine own_go (fun _ => XS.ishr X8.here hx rfl (hb hby d12_9) rfl) ?_
  show ∃ t o, Steps p.tables e below (T8.setTop (mkF m 10 #[.val (.ref so)] [(.int (nn >>> ((0 : Int32) &&& 31)))])) t ∧ _
  obtain ⟨fs, hr, hrun, hended, hW, hsame⟩ := X8.leave (v := some (.int (nn >>> ((0 : Int32) &&& 31)))) (fun h => by rw [Bd.returns] at h; cases h)
  refine ⟨_, _, ?_, hrun, hended, _, _, rfl, ?_, ⟨_, rfl⟩, hW, hsame.mono (by decide) (by decide)⟩
  · exact retI X8 hx Bd.returns (hb hby d12_10) hr
  · show Q_rmLenG Z _ _ _ _ _ _ h0 n0 _ T8.heap _
    rw [e8]
    exact ⟨(congrArg (fun z => some (Value.int z)) (own_shr0 _)), N8, rfl⟩
theorem ef_rmABI (m : MethodId) (x0 : Nat) (x1 : Int32) : entryFrame m #[(.ref x0), (.int x1)] 2 = mkF m 0 #[.val (.ref x0), .val (.int x1)] [] := by first | (simp [entryFrame, mkF, argsToLocals, Value.category]; done) | rfl
theorem d9_0 : decode jdk_68_method_2_code 0 = .ok (.aload_n 0, 1) := by decide +kernel
theorem d9_1 : decode jdk_68_method_2_code 1 = .ok (.invokespecial 3, 3) := by decide +kernel
theorem d9_4 : decode jdk_68_method_2_code 4 = .ok (.getstatic 18, 3) := by decide +kernel
theorem d9_7 : decode jdk_68_method_2_code 7 = .ok (.ifCond .eq 18, 3) := by decide +kernel
theorem d9_10 : decode jdk_68_method_2_code 10 = .ok (.aload_n 0, 1) := by decide +kernel
theorem d9_11 : decode jdk_68_method_2_code 11 = .ok (.iload_n 1, 1) := by decide +kernel
theorem d9_12 : decode jdk_68_method_2_code 12 = .ok (.newarray .byte, 2) := by decide +kernel
theorem d9_14 : decode jdk_68_method_2_code 14 = .ok (.putfield 15, 3) := by decide +kernel
theorem d9_17 : decode jdk_68_method_2_code 17 = .ok (.aload_n 0, 1) := by decide +kernel
theorem d9_18 : decode jdk_68_method_2_code 18 = .ok (.iconst 0, 1) := by decide +kernel
theorem d9_19 : decode jdk_68_method_2_code 19 = .ok (.putfield 22, 3) := by decide +kernel
theorem d9_22 : decode jdk_68_method_2_code 22 = .ok (.goto 16, 3) := by decide +kernel
theorem d9_38 : decode jdk_68_method_2_code 38 = .ok (.return_, 1) := by decide +kernel
theorem pn_java_lang_AbstractStringBuilder : plainName "java/lang/AbstractStringBuilder" = true := by first | (simp [plainName, overriddenIn]; done) | decide +kernel
def Q_rmABI (Z : State) (a1 : Nat) (zc : Int32) (h0 : Heap) (n0 : Nat) (v : Option Value) (h : Heap) (L : List Loc) : Prop := ∃ (vb : Nat), ∃ (kv : ClassId), v = none ∧ Fr n0 L ∧ Keep h0 h [a1] ∧ Exa Z h a1 "java/lang/StringBuilder" ∧ Fld Z h a1 "java/lang/AbstractStringBuilder" "value" "[B" (.ref vb) ∧ Fld Z h a1 "java/lang/AbstractStringBuilder" "coder" "B" (.int (0 : Int32)) ∧ Fld Z h a1 "java/lang/AbstractStringBuilder" "count" "I" (.int (0 : Int32)) ∧ Exa Z h vb "[B" ∧ Arv Z h vb kv .byte (16 : Int32) [] (.int (0 : Int32)) ∧ Fld Z h a1 "java/lang/AbstractStringBuilder" "maybeLatin1" "Z" (.int (0 : Int32)) ∧ (h0.size ≤ vb)
set_option maxRecDepth 65536 in
set_option maxHeartbeats 40000000 in
theorem rmABI (l : Launch) (Z : State) (a0 : Array Value) (hw : ∀ d ∈ tables_1, d.before a0 Z = true) (ws : List Jvm.Cond) (a1 : Nat) (zc : Int32) (h0 : Heap) (n0 : Nat) (Z0 : n0 ≤ h0.size) (P1 : Exa Z h0 a1 "java/lang/StringBuilder") (P2 : Fld Z h0 a1 "java/lang/AbstractStringBuilder" "value" "[B" .null) (P3 : Fld Z h0 a1 "java/lang/AbstractStringBuilder" "coder" "B" (.int (0 : Int32))) (P4 : Fld Z h0 a1 "java/lang/AbstractStringBuilder" "count" "I" (.int (0 : Int32))) (P5 : Fld Z h0 a1 "java/lang/AbstractStringBuilder" "maybeLatin1" "Z" (.int (0 : Int32))) (OLD : Old Z n0 h0) (P6 : Sta Z Z.heap "java/lang/String" "COMPACT_STRINGS" "Z" (.int zc)) (hzc : ¬ (zc = (0 : Int32))) (ga : n0 ≤ a1) :
    MetFree l (⟨"java/lang/AbstractStringBuilder", "<init>", "(I)V"⟩ : MethodName) (head1 (Jvm.Cond.code (⟨"java/lang/AbstractStringBuilder", "<init>", "(I)V"⟩ : MethodName) jdk_68_method_2_code 2 none :: ws) ({ frames := 1, cells := 1, slots := 16, locals := 12 } : Room)) (fun a U => a = #[(.ref a1), (.int (16 : Int32))] ∧ Z.Warmed39 U.vm ∧ U.heap = h0) (fun _ _ _ _ _ => True) (fun _ U o U' => ∃ v L, o = .returned v ∧ Q_rmABI Z a1 zc h0 n0 v U'.heap L ∧ FrameEnd U o U' L ({ frames := 1, cells := 1, slots := 16, locals := 12 } : Room).cells ({ frames := 1, cells := 1, slots := 16, locals := 12 } : Room).slots) := by
  refine MetFree.of_bodySF (plainFor_of_name pn_java_lang_AbstractStringBuilder) hisR ?_
  intro p e s m args below meth c s₁ Bd hml0 hP hK
  obtain ⟨rfl, hZ, hh⟩ := hP
  have hx := Bd.exec
  have hby := Bd.bytes
  have hml : c.maxLocals = 2 := hml0
  have hown : s.vm.findClass "java/lang/AbstractStringBuilder" = some m.cls := findClass_of_methodNamed Bd.named
  have hnm := (name_of_methodNamed Bd.named Bd.method).1
  have X0 : Stand p l e ({ frames := 1, cells := 1, slots := 16, locals := 12 } : Room) s m #[(.ref a1), (.int (16 : Int32))] below meth c s₁ [] 0 0 := Stand.of_body Bd
  have e0 : s₁.heap = h0 := by rw [← hh, Bd.state]; rfl
  have N0 := Fr.nil n0
  have pre0 : ∀ t, Steps p.tables e below (s₁.setTop (mkF m 0 #[.val (.ref a1), .val (.int (16 : Int32))] [])) t → Steps p.tables e below (s₁.setTop (entryFrame m #[(.ref a1), (.int (16 : Int32))] 2)) t := fun t k => castTop (ef_rmABI m a1 (16 : Int32)) k
  have w_254 := hw _ (List.mem_of_getElem? (i := 254) rfl)
  have w_40 := hw _ (List.mem_of_getElem? (i := 40) rfl)
  have w_54 := hw _ (List.mem_of_getElem? (i := 54) rfl)
  have w_56 := hw _ (List.mem_of_getElem? (i := 56) rfl)
  have w_79 := hw _ (List.mem_of_getElem? (i := 79) rfl)
  have oz := OLD.1
  have lt_a1 : a1 < h0.size := P1.lt
  refine own_go (B := s₁.setTop (mkF m 0 #[.val (.ref a1), .val (.int (16 : Int32))] [])) pre0 ?_
  show ∃ t o, Steps p.tables e below (s₁.setTop (mkF m 0 #[.val (.ref a1), .val (.int (16 : Int32))] [])) t ∧ _
  refine own_go (fun _ => XS.aloadN X0.here hx rfl (hb hby d9_0) rfl rfl) ?_
  show ∃ t o, Steps p.tables e below (s₁.setTop (mkF m 1 #[.val (.ref a1), .val (.int (16 : Int32))] [(.ref a1)])) t ∧ _
  obtain ⟨T7, X7, e7, st7⟩ := initO X0 hx hZ hown (hw _ (List.mem_of_getElem? (i := 51) rfl)) (hw _ (List.mem_of_getElem? (i := 12) rfl)) (hw _ (List.mem_of_getElem? (i := 13) rfl)) e0 (g := (mkF m 1 #[.val (.ref a1), .val (.int (16 : Int32))] [(.ref a1)])) rfl (by rw [hml]; rfl) rfl (hb hby d9_1) (by decide) (W := 0) (by show 2 * 0 + _ ≤ _; exact Nat.le_of_eq rfl) (by decide)
  refine own_go st7 ?_
  obtain ⟨T8, X8, e8, st8⟩ := getS2 X7 hx hZ hown (host := "") (Or.inl (hw _ (List.mem_of_getElem? (i := 52) rfl))) Via.refl e7 (Sta.ext OLD.2 P6) (g := (mkF m 4 #[.val (.ref a1), .val (.int (16 : Int32))] [])) rfl (hb hby d9_4)
  refine own_go st8 ?_
  show ∃ t o, Steps p.tables e below (T8.setTop (mkF m 7 #[.val (.ref a1), .val (.int (16 : Int32))] [(.int zc)])) t ∧ _
  refine own_go (fun _ => XS.ifNo X8.here hx rfl (hb hby d9_7) rfl ((if0 _ _).trans (feq hzc).1)) ?_
  refine own_go (fun _ => XS.aloadN X8.here hx rfl (hb hby d9_10) rfl rfl) ?_
  refine own_go (fun _ => XS.iloadN X8.here hx rfl (hb hby d9_11) rfl) ?_
  show ∃ t o, Steps p.tables e below (T8.setTop (mkF m 12 #[.val (.ref a1), .val (.int (16 : Int32))] [(.int (16 : Int32)), (.ref a1)])) t ∧ _
  obtain ⟨T9, h9, k9, X9, e9, E9, A9, Q9, st9⟩ := newPE (aty := .byte) X8 hx hZ (hw _ (List.mem_of_getElem? (i := 19) rfl)) e8 (g := (mkF m 12 #[.val (.ref a1), .val (.int (16 : Int32))] [(.int (16 : Int32)), (.ref a1)])) rfl (hb hby d9_12) rfl (by decide) (cap := 16) (by decide) (by decide) (by decide) (by decide) (ad := "[B") rfl
  obtain ⟨b9, g9⟩ : ∃ z, z = h0.size := ⟨_, rfl⟩
  rw [← g9] at A9 Q9 st9
  refine own_go st9 ?_
  have le_9 : h0.size ≤ h9.size := E9.1
  have lt_b9 : b9 < h9.size := A9.lt
  have V_b9 : Arv Z h9 b9 k9 .byte (16 : Int32) [] (.int (0 : Int32)) := (Arv.new A9 (by decide)).pad (pad_rep [] (.int (0 : Int32)) 0)
  have K9 : Keep h0 h9 [a1] := Keep.ext (Keep.refl h0 [a1]) E9
  have F10 := (Exa.ext E9 P1)
  have F11 := (Fld.ext E9 P2)
  obtain ⟨T12, h12, X12, e12, W12, st12⟩ := putF X9 hx hZ hown (host := "") (Or.inl (hw _ (List.mem_of_getElem? (i := 53) rfl))) Via.refl e9 F11 F10 (Or.inl w_54) w_40 (ty := (.array .byte)) (by decide) rfl rfl (g := (mkF m 14 #[.val (.ref a1), .val (.int (16 : Int32))] [(.ref b9), (.ref a1)])) rfl rfl (hb hby d9_14)
  refine own_go st12 ?_
  have le_12 : h9.size ≤ h12.size := Nat.le_of_eq W12.size.symm
  have K12 : Keep h0 h12 [a1] := Keep.wr K9 W12 (Or.inl (List.mem_of_getElem? (i := 0) rfl))
  have N12 := Fr.snoc X12 N0 ga
  have Fw12 := Fld.same W12 F11
  refine own_go (fun _ => XS.aloadN X12.here hx rfl (hb hby d9_17) rfl rfl) ?_
  refine own_go (fun _ => XS.iconst X12.here hx rfl (hb hby d9_18)) ?_
  have F13 := (Exa.wr W12 F10)
  have F14 := (Fld.other W12 (Fld.ext E9 P3) (Or.inr (slot_ne (a0 := a0) (Or.inl w_56) (Or.inl w_54) (by decide) (t := .byte) (t' := (.array .byte)) (by decide) (by decide))))
  obtain ⟨T15, h15, X15, e15, W15, st15⟩ := putFN X12 hx hZ hown (hw _ (List.mem_of_getElem? (i := 55) rfl)) Via.refl e12 F14 F13 (Or.inl w_56) w_40 (ty := .byte) (v' := (.int (0 : Int32).toInt8.toInt32)) (by decide) rfl (fits_nar_byte _) (g := (mkF m 19 #[.val (.ref a1), .val (.int (16 : Int32))] [(.int (0 : Int32)), (.ref a1)])) rfl rfl (hb hby d9_19)
  refine own_go st15 ?_
  have le_15 : h12.size ≤ h15.size := Nat.le_of_eq W15.size.symm
  have K15 : Keep h0 h15 [a1] := Keep.wr K12 W15 (Or.inl (List.mem_of_getElem? (i := 0) rfl))
  have N15 := Fr.snoc X15 N12 ga
  have Fw15 := Fld.same W15 F14
  have Fcz : Fld Z h15 a1 "java/lang/AbstractStringBuilder" "coder" "B" (.int (0 : Int32)) := Fw15
  refine own_go (fun _ => XS.goto X15.here hx rfl (pc0 := 22) (pc' := 38) rfl (hb hby d9_22) (by decide) (by decide)) ?_
  show ∃ t o, Steps p.tables e below (T15.setTop (mkF m 38 #[.val (.ref a1), .val (.int (16 : Int32))] [])) t ∧ _
  have F16 := (Exa.wr W15 F13)
  have F17 := (Fld.other W15 Fw12 (Or.inr (slot_ne (a0 := a0) (Or.inl w_54) (Or.inl w_56) (by decide) (t := (.array .byte)) (t' := .byte) (by decide) (by decide))))
  have F18 := (Fld.other W15 (Fld.other W12 (Fld.ext E9 P4) (Or.inr (slot_ne (a0 := a0) (Or.inl w_79) (Or.inl w_54) (by decide) (t := .int) (t' := (.array .byte)) (by decide) (by decide)))) (Or.inr (slot_ne (a0 := a0) (Or.inl w_79) (Or.inl w_56) (by decide) (t := .int) (t' := .byte) (by decide) (by decide))))
  have F19 := (Exa.wr W15 (Exa.wr W12 Q9))
  have ne20 : b9 ≠ a1 := own_ne (by omega)
  have F21 := (Arv.other (Arv.other V_b9 W12 ne20) W15 ne20)
  have F22 := (Fld.other W15 (Fld.other W12 (Fld.ext E9 P5) (Or.inr (slot_ne (a0 := a0) (Or.inl w_254) (Or.inl w_54) (by decide) (t := .boolean) (t' := (.array .byte)) (by decide) (by decide)))) (Or.inr (slot_ne (a0 := a0) (Or.inl w_254) (Or.inl w_56) (by decide) (t := .boolean) (t' := .byte) (by decide) (by decide))))
  obtain ⟨fs, hr, hrun, hended, hW, hsame⟩ := X15.leave (v := none) (fun _ => rfl)
  refine ⟨_, _, ?_, hrun, hended, _, _, rfl, ?_, ⟨_, rfl⟩, hW, hsame.mono (by decide) (by decide)⟩
  · exact X15.returnOut hx Bd.returns (hb hby d9_38) hr
  · show Q_rmABI Z _ _ h0 n0 _ T15.heap _
    rw [e15]
    exact ⟨b9, k9, rfl, N15, K15, F16, F17, Fcz, F18, F19, F21, F22, (by omega)⟩
theorem ef_rmSBI (m : MethodId) (x0 : Nat) : entryFrame m #[(.ref x0)] 1 = mkF m 0 #[.val (.ref x0)] [] := by first | (simp [entryFrame, mkF, argsToLocals, Value.category]; done) | rfl
theorem d8_0 : decode jdk_67_method_1_code 0 = .ok (.aload_n 0, 1) := by decide +kernel
theorem d8_1 : decode jdk_67_method_1_code 1 = .ok (.bipush 16, 2) := by decide +kernel
theorem d8_3 : decode jdk_67_method_1_code 3 = .ok (.invokespecial 1, 3) := by decide +kernel
theorem pd__28I_29V : parseMethodDescriptor "(I)V" = some ⟨[.int], none⟩ := by decide +kernel
theorem d8_6 : decode jdk_67_method_1_code 6 = .ok (.return_, 1) := by decide +kernel
theorem pn_java_lang_StringBuilder : plainName "java/lang/StringBuilder" = true := by first | (simp [plainName, overriddenIn]; done) | decide +kernel
def Q_rmSBI (Z : State) (a1 : Nat) (zc : Int32) (h0 : Heap) (n0 : Nat) (v : Option Value) (h : Heap) (L : List Loc) : Prop := ∃ (vb : Nat), ∃ (kv : ClassId), v = none ∧ Fr n0 L ∧ Keep h0 h [a1] ∧ Exa Z h a1 "java/lang/StringBuilder" ∧ Fld Z h a1 "java/lang/AbstractStringBuilder" "value" "[B" (.ref vb) ∧ Fld Z h a1 "java/lang/AbstractStringBuilder" "coder" "B" (.int (0 : Int32)) ∧ Fld Z h a1 "java/lang/AbstractStringBuilder" "count" "I" (.int (0 : Int32)) ∧ Exa Z h vb "[B" ∧ Arv Z h vb kv .byte (16 : Int32) [] (.int (0 : Int32)) ∧ Fld Z h a1 "java/lang/AbstractStringBuilder" "maybeLatin1" "Z" (.int (0 : Int32)) ∧ (h0.size ≤ vb)
set_option maxRecDepth 65536 in
set_option maxHeartbeats 40000000 in
theorem rmSBI (l : Launch) (Z : State) (a0 : Array Value) (hw : ∀ d ∈ tables_1, d.before a0 Z = true) (ws : List Jvm.Cond) (a1 : Nat) (zc : Int32) (h0 : Heap) (n0 : Nat) (Z0 : n0 ≤ h0.size) (P1 : Exa Z h0 a1 "java/lang/StringBuilder") (P2 : Fld Z h0 a1 "java/lang/AbstractStringBuilder" "value" "[B" .null) (P3 : Fld Z h0 a1 "java/lang/AbstractStringBuilder" "coder" "B" (.int (0 : Int32))) (P4 : Fld Z h0 a1 "java/lang/AbstractStringBuilder" "count" "I" (.int (0 : Int32))) (P5 : Fld Z h0 a1 "java/lang/AbstractStringBuilder" "maybeLatin1" "Z" (.int (0 : Int32))) (OLD : Old Z n0 h0) (P6 : Sta Z Z.heap "java/lang/String" "COMPACT_STRINGS" "Z" (.int zc)) (hzc : ¬ (zc = (0 : Int32))) (ga : n0 ≤ a1) :
    MetFree l (⟨"java/lang/StringBuilder", "<init>", "()V"⟩ : MethodName) (head1 (Jvm.Cond.code (⟨"java/lang/StringBuilder", "<init>", "()V"⟩ : MethodName) jdk_67_method_1_code 1 none :: ws) ({ frames := 2, cells := 1, slots := 16, locals := 25 } : Room)) (fun a U => a = #[(.ref a1)] ∧ Z.Warmed39 U.vm ∧ U.heap = h0) (fun _ _ _ _ _ => True) (fun _ U o U' => ∃ v L, o = .returned v ∧ Q_rmSBI Z a1 zc h0 n0 v U'.heap L ∧ FrameEnd U o U' L ({ frames := 2, cells := 1, slots := 16, locals := 25 } : Room).cells ({ frames := 2, cells := 1, slots := 16, locals := 25 } : Room).slots) := by
  refine MetFree.of_bodySF (plainFor_of_name pn_java_lang_StringBuilder) hisR ?_
  intro p e s m args below meth c s₁ Bd hml0 hP hK
  obtain ⟨rfl, hZ, hh⟩ := hP
  have hx := Bd.exec
  have hby := Bd.bytes
  have hml : c.maxLocals = 1 := hml0
  have hown : s.vm.findClass "java/lang/StringBuilder" = some m.cls := findClass_of_methodNamed Bd.named
  have hnm := (name_of_methodNamed Bd.named Bd.method).1
  have X0 : Stand p l e ({ frames := 2, cells := 1, slots := 16, locals := 25 } : Room) s m #[(.ref a1)] below meth c s₁ [] 0 0 := Stand.of_body Bd
  have e0 : s₁.heap = h0 := by rw [← hh, Bd.state]; rfl
  have N0 := Fr.nil n0
  have pre0 : ∀ t, Steps p.tables e below (s₁.setTop (mkF m 0 #[.val (.ref a1)] [])) t → Steps p.tables e below (s₁.setTop (entryFrame m #[(.ref a1)] 1)) t := fun t k => castTop (ef_rmSBI m a1) k
  have w_50 := hw _ (List.mem_of_getElem? (i := 50) rfl)
  have oz := OLD.1
  have lt_a1 : a1 < h0.size := P1.lt
  refine own_go (B := s₁.setTop (mkF m 0 #[.val (.ref a1)] [])) pre0 ?_
  show ∃ t o, Steps p.tables e below (s₁.setTop (mkF m 0 #[.val (.ref a1)] [])) t ∧ _
  refine own_go (fun _ => XS.aloadN X0.here hx rfl (hb hby d8_0) rfl rfl) ?_
  refine own_go (fun _ => XS.bipush X0.here hx rfl (hb hby d8_1)) ?_
  show ∃ t o, Steps p.tables e below (s₁.setTop (mkF m 3 #[.val (.ref a1)] [(.int (16 : Int32)), (.ref a1)])) t ∧ _
  obtain ⟨_, _, ⟨T7, L7, k7, n7⟩, -, X7, ⟨Lc7, hQ7, l7, y7, z7⟩, st7⟩ := X0.specialBack hx (y := (⟨"java/lang/AbstractStringBuilder", "<init>", "(I)V"⟩ : MethodName)) rfl hown (mvT hZ (hw _ (List.mem_of_getElem? (i := 45) rfl))) (mvT hZ (hw _ (List.mem_of_getElem? (i := 46) rfl))) (mvT hZ w_50) (by decide) (backOf (W := 0) (rmABI l Z a0 hw [] a1 zc h0 n0 Z0 P1 P2 P3 P4 P5 OLD P6 hzc ga) hZ w_50 (hw _ (List.mem_of_getElem? (i := 49) rfl)) (by decide) (by decide)) (g := (mkF m 3 #[.val (.ref a1)] [(.int (16 : Int32)), (.ref a1)])) rfl (by rw [hml]; rfl) (Steps.refl _) (a := a1) (argsL := [(.int (16 : Int32))]) (rest := []) (lenOf pd__28I_29V rfl) rfl (by show 2 * 0 + _ ≤ _; exact Nat.le_of_eq rfl) (hb hby d8_3) (fun _ _ => ⟨rfl, e0, (by decide : 0 + 1 ≤ _), (by decide : 0 + 16 ≤ _)⟩)
  dsimp only [Pt.U, Pt.locs, Pt.cells, Pt.slots] at X7 l7 y7 z7 st7 hQ7
  rw [l7, y7, z7] at X7
  obtain ⟨vb_7, kv_7, rfl, Nq7, Kp7, G7_0, G7_1, G7_2, G7_3, G7_4, G7_5, G7_6, H7_0⟩ := hQ7
  have N7 := Fr.app N0 Nq7
  refine own_goT st7 ?_
  have le_7 : h0.size ≤ T7.heap.size := Kp7.1
  have K7 : Keep h0 T7.heap [a1] := Keep.trans (Keep.refl h0 [a1]) Kp7 (allS (Or.inl (List.mem_of_getElem? (i := 0) rfl)) all0)
  have lt_vb_7 : vb_7 < T7.heap.size := (G7_4).lt
  show ∃ t o, Steps p.tables e below (T7.setTop (mkF m 6 #[.val (.ref a1)] [])) t ∧ _
  obtain ⟨fs, hr, hrun, hended, hW, hsame⟩ := X7.leave (v := none) (fun _ => rfl)
  refine ⟨_, _, ?_, hrun, hended, _, _, rfl, ?_, ⟨_, rfl⟩, hW, hsame.mono (by decide) (by decide)⟩
  · exact X7.returnOut hx Bd.returns (hb hby d8_6) hr
  · show Q_rmSBI Z _ _ h0 n0 _ T7.heap _
    exact ⟨vb_7, kv_7, rfl, N7, K7, G7_0, G7_1, G7_2, G7_3, G7_4, G7_5, G7_6, H7_0⟩
theorem ef_rmMax (m : MethodId) (x0 : Int32) (x1 : Int32) : entryFrame m #[(.int x0), (.int x1)] 2 = mkF m 0 #[.val (.int x0), .val (.int x1)] [] := by first | (simp [entryFrame, mkF, argsToLocals, Value.category]; done) | rfl
theorem d17_0 : decode jdk_29_method_65_code 0 = .ok (.iload_n 0, 1) := by decide +kernel
theorem d17_1 : decode jdk_29_method_65_code 1 = .ok (.iload_n 1, 1) := by decide +kernel
theorem d17_2 : decode jdk_29_method_65_code 2 = .ok (.if_icmp .lt 7, 3) := by decide +kernel
theorem d17_9 : decode jdk_29_method_65_code 9 = .ok (.iload_n 1, 1) := by decide +kernel
theorem d17_10 : decode jdk_29_method_65_code 10 = .ok (.ireturn, 1) := by decide +kernel
theorem d17_5 : decode jdk_29_method_65_code 5 = .ok (.iload_n 0, 1) := by decide +kernel
theorem d17_6 : decode jdk_29_method_65_code 6 = .ok (.goto 4, 3) := by decide +kernel
def Q_rmMax (Z : State) (xa : Int32) (xb : Int32) (h0 : Heap) (n0 : Nat) (v : Option Value) (h : Heap) (L : List Loc) : Prop := v = some (.int (if xa < xb then xb else xa)) ∧ Fr n0 L ∧ h = h0
set_option maxRecDepth 65536 in
set_option maxHeartbeats 40000000 in
theorem rmMax (l : Launch) (Z : State) (a0 : Array Value) (hw : ∀ d ∈ tables_1, d.before a0 Z = true) (ws : List Jvm.Cond) (xa : Int32) (xb : Int32) (h0 : Heap) (n0 : Nat) (Z0 : n0 ≤ h0.size) (OLD : Old Z n0 h0) :
    MetFree l (⟨"java/lang/Math", "max", "(II)I"⟩ : MethodName) (head1 (Jvm.Cond.code (⟨"java/lang/Math", "max", "(II)I"⟩ : MethodName) jdk_29_method_65_code 2 (some .int) :: ws) ({ frames := 0, cells := 0, slots := 0, locals := 0 } : Room)) (fun a U => a = #[(.int xa), (.int xb)] ∧ Z.Warmed39 U.vm ∧ U.heap = h0) (fun _ _ _ _ _ => True) (fun _ U o U' => ∃ v L, o = .returned v ∧ Q_rmMax Z xa xb h0 n0 v U'.heap L ∧ FrameEnd U o U' L ({ frames := 0, cells := 0, slots := 0, locals := 0 } : Room).cells ({ frames := 0, cells := 0, slots := 0, locals := 0 } : Room).slots) := by
  refine MetFree.of_bodySF (Jvm.Free.JP.mathPlain rfl (by decide +kernel)) hisR ?_
  intro p e s m args below meth c s₁ Bd hml0 hP hK
  obtain ⟨rfl, hZ, hh⟩ := hP
  have hx := Bd.exec
  have hby := Bd.bytes
  have hml : c.maxLocals = 2 := hml0
  have hown : s.vm.findClass "java/lang/Math" = some m.cls := findClass_of_methodNamed Bd.named
  have hnm := (name_of_methodNamed Bd.named Bd.method).1
  have X0 : Stand p l e ({ frames := 0, cells := 0, slots := 0, locals := 0 } : Room) s m #[(.int xa), (.int xb)] below meth c s₁ [] 0 0 := Stand.of_body Bd
  have e0 : s₁.heap = h0 := by rw [← hh, Bd.state]; rfl
  have N0 := Fr.nil n0
  have pre0 : ∀ t, Steps p.tables e below (s₁.setTop (mkF m 0 #[.val (.int xa), .val (.int xb)] [])) t → Steps p.tables e below (s₁.setTop (entryFrame m #[(.int xa), (.int xb)] 2)) t := fun t k => castTop (ef_rmMax m xa xb) k
  have oz := OLD.1
  refine own_go (B := s₁.setTop (mkF m 0 #[.val (.int xa), .val (.int xb)] [])) pre0 ?_
  show ∃ t o, Steps p.tables e below (s₁.setTop (mkF m 0 #[.val (.int xa), .val (.int xb)] [])) t ∧ _
  refine own_go (fun _ => XS.iloadN X0.here hx rfl (hb hby d17_0) rfl) ?_
  refine own_go (fun _ => XS.iloadN X0.here hx rfl (hb hby d17_1) rfl) ?_
  show ∃ t o, Steps p.tables e below (s₁.setTop (mkF m 2 #[.val (.int xa), .val (.int xb)] [(.int xb), (.int xa)])) t ∧ _
  by_cases hc1 : xa < xb
  · refine own_go (fun _ => XS.icmpYes X0.here hx rfl (pc0 := 2) (pc' := 9) rfl (hb hby d17_2) rfl (tlt hc1).1 (by decide) (by decide)) ?_
    refine own_go (fun _ => XS.iloadN X0.here hx rfl (hb hby d17_9) rfl) ?_
    show ∃ t o, Steps p.tables e below (s₁.setTop (mkF m 10 #[.val (.int xa), .val (.int xb)] [(.int xb)])) t ∧ _
    obtain ⟨fs, hr, hrun, hended, hW, hsame⟩ := X0.leave (v := some (.int xb)) (fun h => by rw [Bd.returns] at h; cases h)
    refine ⟨_, _, ?_, hrun, hended, _, _, rfl, ?_, ⟨_, rfl⟩, hW, hsame.mono (by decide) (by decide)⟩
    · exact retI X0 hx Bd.returns (hb hby d17_10) hr
    · show Q_rmMax Z _ _ h0 n0 _ s₁.heap _
      rw [e0]
      exact ⟨(by simp only [if_pos hc1]), N0, rfl⟩
  · refine own_go (fun _ => XS.icmpNo X0.here hx rfl (hb hby d17_2) rfl (flt hc1).1) ?_
    refine own_go (fun _ => XS.iloadN X0.here hx rfl (hb hby d17_5) rfl) ?_
    refine own_go (fun _ => XS.goto X0.here hx rfl (pc0 := 6) (pc' := 10) rfl (hb hby d17_6) (by decide) (by decide)) ?_
    show ∃ t o, Steps p.tables e below (s₁.setTop (mkF m 10 #[.val (.int xa), .val (.int xb)] [(.int xa)])) t ∧ _
    obtain ⟨fs, hr, hrun, hended, hW, hsame⟩ := X0.leave (v := some (.int xa)) (fun h => by rw [Bd.returns] at h; cases h)
    refine ⟨_, _, ?_, hrun, hended, _, _, rfl, ?_, ⟨_, rfl⟩, hW, hsame.mono (by decide) (by decide)⟩
    · exact retI X0 hx Bd.returns (hb hby d17_10) hr
    · show Q_rmMax Z _ _ h0 n0 _ s₁.heap _
      rw [e0]
      exact ⟨(by simp only [if_neg hc1]), N0, rfl⟩
theorem ef_rmMinA (m : MethodId) (x0 : Int32) (x1 : Int32) : entryFrame m #[(.int x0), (.int x1)] 2 = mkF m 0 #[.val (.int x0), .val (.int x1)] [] := by first | (simp [entryFrame, mkF, argsToLocals, Value.category]; done) | rfl
theorem d19_0 : decode jdk_29_method_69_code 0 = .ok (.iload_n 0, 1) := by decide +kernel
theorem d19_1 : decode jdk_29_method_69_code 1 = .ok (.iload_n 1, 1) := by decide +kernel
theorem d19_2 : decode jdk_29_method_69_code 2 = .ok (.if_icmp .gt 7, 3) := by decide +kernel
theorem d19_5 : decode jdk_29_method_69_code 5 = .ok (.iload_n 0, 1) := by decide +kernel
theorem d19_6 : decode jdk_29_method_69_code 6 = .ok (.goto 4, 3) := by decide +kernel
theorem d19_10 : decode jdk_29_method_69_code 10 = .ok (.ireturn, 1) := by decide +kernel
def Q_rmMinA (Z : State) (xa : Int32) (xb : Int32) (h0 : Heap) (n0 : Nat) (v : Option Value) (h : Heap) (L : List Loc) : Prop := v = some (.int xa) ∧ Fr n0 L ∧ h = h0
set_option maxRecDepth 65536 in
set_option maxHeartbeats 40000000 in
theorem rmMinA (l : Launch) (Z : State) (a0 : Array Value) (hw : ∀ d ∈ tables_1, d.before a0 Z = true) (ws : List Jvm.Cond) (xa : Int32) (xb : Int32) (h0 : Heap) (n0 : Nat) (Z0 : n0 ≤ h0.size) (OLD : Old Z n0 h0) (q1 : ¬ (xb < xa)) :
    MetFree l (⟨"java/lang/Math", "min", "(II)I"⟩ : MethodName) (head1 (Jvm.Cond.code (⟨"java/lang/Math", "min", "(II)I"⟩ : MethodName) jdk_29_method_69_code 2 (some .int) :: ws) ({ frames := 0, cells := 0, slots := 0, locals := 0 } : Room)) (fun a U => a = #[(.int xa), (.int xb)] ∧ Z.Warmed39 U.vm ∧ U.heap = h0) (fun _ _ _ _ _ => True) (fun _ U o U' => ∃ v L, o = .returned v ∧ Q_rmMinA Z xa xb h0 n0 v U'.heap L ∧ FrameEnd U o U' L ({ frames := 0, cells := 0, slots := 0, locals := 0 } : Room).cells ({ frames := 0, cells := 0, slots := 0, locals := 0 } : Room).slots) := by
  refine MetFree.of_bodySF (Jvm.Free.JP.mathPlain rfl (by decide +kernel)) hisR ?_
  intro p e s m args below meth c s₁ Bd hml0 hP hK
  obtain ⟨rfl, hZ, hh⟩ := hP
  have hx := Bd.exec
  have hby := Bd.bytes
  have hml : c.maxLocals = 2 := hml0
  have hown : s.vm.findClass "java/lang/Math" = some m.cls := findClass_of_methodNamed Bd.named
  have hnm := (name_of_methodNamed Bd.named Bd.method).1
  have X0 : Stand p l e ({ frames := 0, cells := 0, slots := 0, locals := 0 } : Room) s m #[(.int xa), (.int xb)] below meth c s₁ [] 0 0 := Stand.of_body Bd
  have e0 : s₁.heap = h0 := by rw [← hh, Bd.state]; rfl
  have N0 := Fr.nil n0
  have pre0 : ∀ t, Steps p.tables e below (s₁.setTop (mkF m 0 #[.val (.int xa), .val (.int xb)] [])) t → Steps p.tables e below (s₁.setTop (entryFrame m #[(.int xa), (.int xb)] 2)) t := fun t k => castTop (ef_rmMinA m xa xb) k
  have oz := OLD.1
  refine own_go (B := s₁.setTop (mkF m 0 #[.val (.int xa), .val (.int xb)] [])) pre0 ?_
  show ∃ t o, Steps p.tables e below (s₁.setTop (mkF m 0 #[.val (.int xa), .val (.int xb)] [])) t ∧ _
  refine own_go (fun _ => XS.iloadN X0.here hx rfl (hb hby d19_0) rfl) ?_
  refine own_go (fun _ => XS.iloadN X0.here hx rfl (hb hby d19_1) rfl) ?_
  show ∃ t o, Steps p.tables e below (s₁.setTop (mkF m 2 #[.val (.int xa), .val (.int xb)] [(.int xb), (.int xa)])) t ∧ _
  refine own_go (fun _ => XS.icmpNo X0.here hx rfl (hb hby d19_2) rfl (flt q1).2.2.1) ?_
  refine own_go (fun _ => XS.iloadN X0.here hx rfl (hb hby d19_5) rfl) ?_
  refine own_go (fun _ => XS.goto X0.here hx rfl (pc0 := 6) (pc' := 10) rfl (hb hby d19_6) (by decide) (by decide)) ?_
  show ∃ t o, Steps p.tables e below (s₁.setTop (mkF m 10 #[.val (.int xa), .val (.int xb)] [(.int xa)])) t ∧ _
  obtain ⟨fs, hr, hrun, hended, hW, hsame⟩ := X0.leave (v := some (.int xa)) (fun h => by rw [Bd.returns] at h; cases h)
  refine ⟨_, _, ?_, hrun, hended, _, _, rfl, ?_, ⟨_, rfl⟩, hW, hsame.mono (by decide) (by decide)⟩
  · exact retI X0 hx Bd.returns (hb hby d19_10) hr
  · show Q_rmMinA Z _ _ h0 n0 _ s₁.heap _
    rw [e0]
    exact ⟨rfl, N0, rfl⟩
theorem ef_rmMinB (m : MethodId) (x0 : Int32) (x1 : Int32) : entryFrame m #[(.int x0), (.int x1)] 2 = mkF m 0 #[.val (.int x0), .val (.int x1)] [] := by first | (simp [entryFrame, mkF, argsToLocals, Value.category]; done) | rfl
theorem d19_9 : decode jdk_29_method_69_code 9 = .ok (.iload_n 1, 1) := by decide +kernel
def Q_rmMinB (Z : State) (xa : Int32) (xb : Int32) (h0 : Heap) (n0 : Nat) (v : Option Value) (h : Heap) (L : List Loc) : Prop := v = some (.int xb) ∧ Fr n0 L ∧ h = h0
set_option maxRecDepth 65536 in
set_option maxHeartbeats 40000000 in
theorem rmMinB (l : Launch) (Z : State) (a0 : Array Value) (hw : ∀ d ∈ tables_1, d.before a0 Z = true) (ws : List Jvm.Cond) (xa : Int32) (xb : Int32) (h0 : Heap) (n0 : Nat) (Z0 : n0 ≤ h0.size) (OLD : Old Z n0 h0) (q1 : xb < xa) :
    MetFree l (⟨"java/lang/Math", "min", "(II)I"⟩ : MethodName) (head1 (Jvm.Cond.code (⟨"java/lang/Math", "min", "(II)I"⟩ : MethodName) jdk_29_method_69_code 2 (some .int) :: ws) ({ frames := 0, cells := 0, slots := 0, locals := 0 } : Room)) (fun a U => a = #[(.int xa), (.int xb)] ∧ Z.Warmed39 U.vm ∧ U.heap = h0) (fun _ _ _ _ _ => True) (fun _ U o U' => ∃ v L, o = .returned v ∧ Q_rmMinB Z xa xb h0 n0 v U'.heap L ∧ FrameEnd U o U' L ({ frames := 0, cells := 0, slots := 0, locals := 0 } : Room).cells ({ frames := 0, cells := 0, slots := 0, locals := 0 } : Room).slots) := by
  refine MetFree.of_bodySF (Jvm.Free.JP.mathPlain rfl (by decide +kernel)) hisR ?_
  intro p e s m args below meth c s₁ Bd hml0 hP hK
  obtain ⟨rfl, hZ, hh⟩ := hP
  have hx := Bd.exec
  have hby := Bd.bytes
  have hml : c.maxLocals = 2 := hml0
  have hown : s.vm.findClass "java/lang/Math" = some m.cls := findClass_of_methodNamed Bd.named
  have hnm := (name_of_methodNamed Bd.named Bd.method).1
  have X0 : Stand p l e ({ frames := 0, cells := 0, slots := 0, locals := 0 } : Room) s m #[(.int xa), (.int xb)] below meth c s₁ [] 0 0 := Stand.of_body Bd
  have e0 : s₁.heap = h0 := by rw [← hh, Bd.state]; rfl
  have N0 := Fr.nil n0
  have pre0 : ∀ t, Steps p.tables e below (s₁.setTop (mkF m 0 #[.val (.int xa), .val (.int xb)] [])) t → Steps p.tables e below (s₁.setTop (entryFrame m #[(.int xa), (.int xb)] 2)) t := fun t k => castTop (ef_rmMinB m xa xb) k
  have oz := OLD.1
  refine own_go (B := s₁.setTop (mkF m 0 #[.val (.int xa), .val (.int xb)] [])) pre0 ?_
  show ∃ t o, Steps p.tables e below (s₁.setTop (mkF m 0 #[.val (.int xa), .val (.int xb)] [])) t ∧ _
  refine own_go (fun _ => XS.iloadN X0.here hx rfl (hb hby d19_0) rfl) ?_
  refine own_go (fun _ => XS.iloadN X0.here hx rfl (hb hby d19_1) rfl) ?_
  show ∃ t o, Steps p.tables e below (s₁.setTop (mkF m 2 #[.val (.int xa), .val (.int xb)] [(.int xb), (.int xa)])) t ∧ _
  refine own_go (fun _ => XS.icmpYes X0.here hx rfl (pc0 := 2) (pc' := 9) rfl (hb hby d19_2) rfl (tlt q1).2.2.1 (by decide) (by decide)) ?_
  refine own_go (fun _ => XS.iloadN X0.here hx rfl (hb hby d19_9) rfl) ?_
  show ∃ t o, Steps p.tables e below (s₁.setTop (mkF m 10 #[.val (.int xa), .val (.int xb)] [(.int xb)])) t ∧ _
  obtain ⟨fs, hr, hrun, hended, hW, hsame⟩ := X0.leave (v := some (.int xb)) (fun h => by rw [Bd.returns] at h; cases h)
  refine ⟨_, _, ?_, hrun, hended, _, _, rfl, ?_, ⟨_, rfl⟩, hW, hsame.mono (by decide) (by decide)⟩
  · exact retI X0 hx Bd.returns (hb hby d19_10) hr
  · show Q_rmMinB Z _ _ h0 n0 _ s₁.heap _
    rw [e0]
    exact ⟨rfl, N0, rfl⟩
theorem ef_rmNL (m : MethodId) (x0 : Int32) (x1 : Int32) (x2 : Int32) : entryFrame m #[(.int x0), (.int x1), (.int x2)] 4 = mkF m 0 #[.val (.int x0), .val (.int x1), .val (.int x2), .unset] [] := by first | (simp [entryFrame, mkF, argsToLocals, Value.category]; done) | rfl
theorem d16_0 : decode jdk_48_method_27_code 0 = .ok (.iload_n 0, 1) := by decide +kernel
theorem d16_1 : decode jdk_48_method_27_code 1 = .ok (.iload_n 1, 1) := by decide +kernel
theorem d16_2 : decode jdk_48_method_27_code 2 = .ok (.iload_n 2, 1) := by decide +kernel
theorem d16_3 : decode jdk_48_method_27_code 3 = .ok (.invokestatic 194, 3) := by decide +kernel
theorem pd__28II_29I : parseMethodDescriptor "(II)I" = some ⟨[.int, .int], some .int⟩ := by decide +kernel
theorem d16_6 : decode jdk_48_method_27_code 6 = .ok (.iadd, 1) := by decide +kernel
theorem d16_7 : decode jdk_48_method_27_code 7 = .ok (.istore_n 3, 1) := by decide +kernel
theorem d16_8 : decode jdk_48_method_27_code 8 = .ok (.iconst 0, 1) := by decide +kernel
theorem d16_9 : decode jdk_48_method_27_code 9 = .ok (.iload_n 3, 1) := by decide +kernel
theorem d16_10 : decode jdk_48_method_27_code 10 = .ok (.if_icmp .ge 11, 3) := by decide +kernel
theorem d16_13 : decode jdk_48_method_27_code 13 = .ok (.iload_n 3, 1) := by decide +kernel
theorem d16_14 : decode jdk_48_method_27_code 14 = .ok (.ldc 200, 2) := by decide +kernel
theorem d16_16 : decode jdk_48_method_27_code 16 = .ok (.if_icmp .gt 5, 3) := by decide +kernel
theorem d16_19 : decode jdk_48_method_27_code 19 = .ok (.iload_n 3, 1) := by decide +kernel
theorem d16_20 : decode jdk_48_method_27_code 20 = .ok (.ireturn, 1) := by decide +kernel
theorem pn_jdk_internal_util_ArraysSupport : plainName "jdk/internal/util/ArraysSupport" = true := by first | (simp [plainName, overriddenIn]; done) | decide +kernel
def Q_rmNL (Z : State) (xo : Int32) (xg : Int32) (xp : Int32) (h0 : Heap) (n0 : Nat) (v : Option Value) (h : Heap) (L : List Loc) : Prop := ∃ (r1 : Int32), v = some (.int r1) ∧ Fr n0 L ∧ h = h0 ∧ (r1 = (xo + (if xg < xp then xp else xg)))
set_option maxRecDepth 65536 in
set_option maxHeartbeats 40000000 in
theorem rmNL (l : Launch) (Z : State) (a0 : Array Value) (hw : ∀ d ∈ tables_1, d.before a0 Z = true) (ws : List Jvm.Cond) (xo : Int32) (xg : Int32) (xp : Int32) (h0 : Heap) (n0 : Nat) (Z0 : n0 ≤ h0.size) (OLD : Old Z n0 h0) (hp : (0 : Int32) < (xo + (if xg < xp then xp else xg))) (hq : ¬ ((2147483639 : Int32) < (xo + (if xg < xp then xp else xg)))) :
    MetFree l (⟨"jdk/internal/util/ArraysSupport", "newLength", "(III)I"⟩ : MethodName) (head1 (Jvm.Cond.code (⟨"jdk/internal/util/ArraysSupport", "newLength", "(III)I"⟩ : MethodName) jdk_48_method_27_code 4 (some .int) :: ws) ({ frames := 1, cells := 0, slots := 0, locals := 14 } : Room)) (fun a U => a = #[(.int xo), (.int xg), (.int xp)] ∧ Z.Warmed39 U.vm ∧ U.heap = h0) (fun _ _ _ _ _ => True) (fun _ U o U' => ∃ v L, o = .returned v ∧ Q_rmNL Z xo xg xp h0 n0 v U'.heap L ∧ FrameEnd U o U' L ({ frames := 1, cells := 0, slots := 0, locals := 14 } : Room).cells ({ frames := 1, cells := 0, slots := 0, locals := 14 } : Room).slots) := by
  refine MetFree.of_bodySF (plainFor_of_name pn_jdk_internal_util_ArraysSupport) hisR ?_
  intro p e s m args below meth c s₁ Bd hml0 hP hK
  obtain ⟨rfl, hZ, hh⟩ := hP
  have hx := Bd.exec
  have hby := Bd.bytes
  have hml : c.maxLocals = 4 := hml0
  have hown : s.vm.findClass "jdk/internal/util/ArraysSupport" = some m.cls := findClass_of_methodNamed Bd.named
  have hnm := (name_of_methodNamed Bd.named Bd.method).1
  have X0 : Stand p l e ({ frames := 1, cells := 0, slots := 0, locals := 14 } : Room) s m #[(.int xo), (.int xg), (.int xp)] below meth c s₁ [] 0 0 := Stand.of_body Bd
  have e0 : s₁.heap = h0 := by rw [← hh, Bd.state]; rfl
  have N0 := Fr.nil n0
  have pre0 : ∀ t, Steps p.tables e below (s₁.setTop (mkF m 0 #[.val (.int xo), .val (.int xg), .val (.int xp), .unset] [])) t → Steps p.tables e below (s₁.setTop (entryFrame m #[(.int xo), (.int xg), (.int xp)] 4)) t := fun t k => castTop (ef_rmNL m xo xg xp) k
  have w_96 := hw _ (List.mem_of_getElem? (i := 96) rfl)
  have w_97 := hw _ (List.mem_of_getElem? (i := 97) rfl)
  have oz := OLD.1
  refine own_go (B := s₁.setTop (mkF m 0 #[.val (.int xo), .val (.int xg), .val (.int xp), .unset] [])) pre0 ?_
  show ∃ t o, Steps p.tables e below (s₁.setTop (mkF m 0 #[.val (.int xo), .val (.int xg), .val (.int xp), .unset] [])) t ∧ _
  refine own_go (fun _ => XS.iloadN X0.here hx rfl (hb hby d16_0) rfl) ?_
  refine own_go (fun _ => XS.iloadN X0.here hx rfl (hb hby d16_1) rfl) ?_
  refine own_go (fun _ => XS.iloadN X0.here hx rfl (hb hby d16_2) rfl) ?_
  show ∃ t o, Steps p.tables e below (s₁.setTop (mkF m 3 #[.val (.int xo), .val (.int xg), .val (.int xp), .unset] [(.int xp), (.int xg), (.int xo)])) t ∧ _
  obtain ⟨_, _, ⟨T1, L1, k1, n1⟩, -, X1, ⟨Lc1, hQ1, l1, y1, z1⟩, st1⟩ := Jvm.LawKit.callS X0 hx (y := (⟨"java/lang/Math", "max", "(II)I"⟩ : MethodName)) hown (mvT hZ (hw _ (List.mem_of_getElem? (i := 94) rfl))) (mvT hZ (hw _ (List.mem_of_getElem? (i := 95) rfl))) (mvT hZ w_96) (mvT hZ w_97) (by decide) (backOf (W := 1) (rmMax l Z a0 hw [] xg xp h0 n0 Z0 OLD) hZ w_97 w_96 (by decide) (by decide)) (g := (mkF m 3 #[.val (.int xo), .val (.int xg), .val (.int xp), .unset] [(.int xp), (.int xg), (.int xo)])) rfl (by rw [hml]; rfl) (argsL := [(.int xg), (.int xp)]) (rest := [(.int xo)]) (lenOf pd__28II_29I rfl) rfl (by show 2 * 0 + _ ≤ _; exact Nat.le_of_eq rfl) (hb hby d16_3) (fun _ _ => ⟨rfl, e0, (by decide : 0 + 0 ≤ _), (by decide : 0 + 0 ≤ _)⟩)
  dsimp only [Pt.U, Pt.locs, Pt.cells, Pt.slots] at X1 l1 y1 z1 st1 hQ1
  rw [l1, y1, z1] at X1
  obtain ⟨rfl, Nq1, e1⟩ := hQ1
  have N1 := Fr.app N0 Nq1
  refine own_go st1 ?_
  refine own_go (fun _ => XS.iadd X1.here hx rfl (hb hby d16_6) rfl) ?_
  refine own_go (fun _ => XS.istoreN X1.here hx rfl (hb hby d16_7) rfl (l' := #[.val (.int xo), .val (.int xg), .val (.int xp), .val (.int (xo + (if xg < xp then xp else xg)))]) rfl) ?_
  refine own_go (fun _ => XS.iconst X1.here hx rfl (hb hby d16_8)) ?_
  refine own_go (fun _ => XS.iloadN X1.here hx rfl (hb hby d16_9) rfl) ?_
  show ∃ t o, Steps p.tables e below (T1.setTop (mkF m 10 #[.val (.int xo), .val (.int xg), .val (.int xp), .val (.int (xo + (if xg < xp then xp else xg)))] [(.int (xo + (if xg < xp then xp else xg))), (.int (0 : Int32))])) t ∧ _
  refine own_go (fun _ => XS.icmpNo X1.here hx rfl (hb hby d16_10) rfl (tlt hp).2.1) ?_
  refine own_go (fun _ => XS.iloadN X1.here hx rfl (hb hby d16_13) rfl) ?_
  refine own_go (fun _ => X1.ldcInt hx hown (mvT hZ (hw _ (List.mem_of_getElem? (i := 98) rfl))) (g := (mkF m 14 #[.val (.int xo), .val (.int xg), .val (.int xp), .val (.int (xo + (if xg < xp then xp else xg)))] [(.int (xo + (if xg < xp then xp else xg)))])) rfl (hb hby d16_14) _) ?_
  show ∃ t o, Steps p.tables e below (T1.setTop (mkF m 16 #[.val (.int xo), .val (.int xg), .val (.int xp), .val (.int (xo + (if xg < xp then xp else xg)))] [(.int (2147483639 : Int32)), (.int (xo + (if xg < xp then xp else xg)))])) t ∧ _
  refine own_go (fun _ => XS.icmpNo X1.here hx rfl (hb hby d16_16) rfl (flt hq).2.2.1) ?_
  refine own_go (fun _ => XS.iloadN X1.here hx rfl (hb hby d16_19) rfl) ?_
  show ∃ t o, Steps p.tables e below (T1.setTop (mkF m 20 #[.val (.int xo), .val (.int xg), .val (.int xp), .val (.int (xo + (if xg < xp then xp else xg)))] [(.int (xo + (if xg < xp then xp else xg)))])) t ∧ _
  obtain ⟨fs, hr, hrun, hended, hW, hsame⟩ := X1.leave (v := some (.int (xo + (if xg < xp then xp else xg)))) (fun h => by rw [Bd.returns] at h; cases h)
  refine ⟨_, _, ?_, hrun, hended, _, _, rfl, ?_, ⟨_, rfl⟩, hW, hsame.mono (by decide) (by decide)⟩
  · exact retI X1 hx Bd.returns (hb hby d16_20) hr
  · show Q_rmNL Z _ _ _ h0 n0 _ T1.heap _
    rw [e1]
    exact ⟨(xo + (if xg < xp then xp else xg)), rfl, N1, rfl, rfl⟩
theorem ef_rmNC (m : MethodId) (x0 : Nat) (x1 : Int32) : entryFrame m #[(.ref x0), (.int x1)] 6 = mkF m 0 #[.val (.ref x0), .val (.int x1), .unset, .unset, .unset, .unset] [] := by first | (simp [entryFrame, mkF, argsToLocals, Value.category]; done) | rfl
theorem d15_0 : decode jdk_68_method_10_code 0 = .ok (.aload_n 0, 1) := by decide +kernel
theorem d15_1 : decode jdk_68_method_10_code 1 = .ok (.getfield 15, 3) := by decide +kernel
theorem d15_4 : decode jdk_68_method_10_code 4 = .ok (.arraylength, 1) := by decide +kernel
theorem d15_5 : decode jdk_68_method_10_code 5 = .ok (.istore_n 2, 1) := by decide +kernel
theorem d15_6 : decode jdk_68_method_10_code 6 = .ok (.iload_n 1, 1) := by decide +kernel
theorem d15_7 : decode jdk_68_method_10_code 7 = .ok (.aload_n 0, 1) := by decide +kernel
theorem d15_8 : decode jdk_68_method_10_code 8 = .ok (.getfield 22, 3) := by decide +kernel
theorem d15_11 : decode jdk_68_method_10_code 11 = .ok (.ishl, 1) := by decide +kernel
theorem d15_12 : decode jdk_68_method_10_code 12 = .ok (.istore_n 3, 1) := by decide +kernel
theorem d15_13 : decode jdk_68_method_10_code 13 = .ok (.iload_n 3, 1) := by decide +kernel
theorem d15_14 : decode jdk_68_method_10_code 14 = .ok (.iload_n 2, 1) := by decide +kernel
theorem d15_15 : decode jdk_68_method_10_code 15 = .ok (.isub, 1) := by decide +kernel
theorem d15_16 : decode jdk_68_method_10_code 16 = .ok (.istore 4, 2) := by decide +kernel
theorem d15_18 : decode jdk_68_method_10_code 18 = .ok (.iload_n 2, 1) := by decide +kernel
theorem d15_19 : decode jdk_68_method_10_code 19 = .ok (.iload 4, 2) := by decide +kernel
theorem d15_21 : decode jdk_68_method_10_code 21 = .ok (.iload_n 2, 1) := by decide +kernel
theorem d15_22 : decode jdk_68_method_10_code 22 = .ok (.iconst 2, 1) := by decide +kernel
theorem d15_23 : decode jdk_68_method_10_code 23 = .ok (.aload_n 0, 1) := by decide +kernel
theorem d15_24 : decode jdk_68_method_10_code 24 = .ok (.getfield 22, 3) := by decide +kernel
theorem d15_27 : decode jdk_68_method_10_code 27 = .ok (.ishl, 1) := by decide +kernel
theorem d15_28 : decode jdk_68_method_10_code 28 = .ok (.iadd, 1) := by decide +kernel
theorem d15_29 : decode jdk_68_method_10_code 29 = .ok (.invokestatic 114, 3) := by decide +kernel
theorem pd__28III_29I : parseMethodDescriptor "(III)I" = some ⟨[.int, .int, .int], some .int⟩ := by decide +kernel
theorem d15_32 : decode jdk_68_method_10_code 32 = .ok (.istore 5, 2) := by decide +kernel
theorem d15_34 : decode jdk_68_method_10_code 34 = .ok (.iload 5, 2) := by decide +kernel
theorem d15_36 : decode jdk_68_method_10_code 36 = .ok (.ldc 39, 2) := by decide +kernel
theorem d15_38 : decode jdk_68_method_10_code 38 = .ok (.if_icmp .ne 13, 3) := by decide +kernel
theorem d15_51 : decode jdk_68_method_10_code 51 = .ok (.iload 5, 2) := by decide +kernel
theorem d15_53 : decode jdk_68_method_10_code 53 = .ok (.aload_n 0, 1) := by decide +kernel
theorem d15_54 : decode jdk_68_method_10_code 54 = .ok (.getfield 22, 3) := by decide +kernel
theorem d15_57 : decode jdk_68_method_10_code 57 = .ok (.ishr, 1) := by decide +kernel
theorem d15_58 : decode jdk_68_method_10_code 58 = .ok (.ireturn, 1) := by decide +kernel
def Q_rmNC (Z : State) (sb : Nat) (vb : Nat) (kv : ClassId) (cp : Int32) (us : List Value) (mn : Int32) (h0 : Heap) (n0 : Nat) (v : Option Value) (h : Heap) (L : List Loc) : Prop := ∃ (r2 : Int32), v = some (.int r2) ∧ Fr n0 L ∧ h = h0 ∧ (mn.toInt ≤ r2.toInt ∧ r2.toInt = 2 * cp.toInt + 2)
set_option maxRecDepth 65536 in
set_option maxHeartbeats 40000000 in
theorem rmNC (l : Launch) (Z : State) (a0 : Array Value) (hw : ∀ d ∈ tables_1, d.before a0 Z = true) (ws : List Jvm.Cond) (sb : Nat) (vb : Nat) (kv : ClassId) (cp : Int32) (us : List Value) (mn : Int32) (h0 : Heap) (n0 : Nat) (Z0 : n0 ≤ h0.size) (P1 : Fld Z h0 sb "java/lang/AbstractStringBuilder" "value" "[B" (.ref vb)) (P2 : Fld Z h0 sb "java/lang/AbstractStringBuilder" "coder" "B" (.int (0 : Int32))) (P3 : Arv Z h0 vb kv .byte cp us (.int (0 : Int32))) (OLD : Old Z n0 h0) (hm : own_mn mn cp) (hcp : own_cap us cp) (hq : (0 : Int32) < (mn - cp)) :
    MetFree l (⟨"java/lang/AbstractStringBuilder", "newCapacity", "(I)I"⟩ : MethodName) (head1 (Jvm.Cond.code (⟨"java/lang/AbstractStringBuilder", "newCapacity", "(I)I"⟩ : MethodName) jdk_68_method_10_code 6 (some .int) :: ws) ({ frames := 2, cells := 0, slots := 0, locals := 29 } : Room)) (fun a U => a = #[(.ref sb), (.int mn)] ∧ Z.Warmed39 U.vm ∧ U.heap = h0) (fun _ _ _ _ _ => True) (fun _ U o U' => ∃ v L, o = .returned v ∧ Q_rmNC Z sb vb kv cp us mn h0 n0 v U'.heap L ∧ FrameEnd U o U' L ({ frames := 2, cells := 0, slots := 0, locals := 29 } : Room).cells ({ frames := 2, cells := 0, slots := 0, locals := 29 } : Room).slots) := by
  refine MetFree.of_bodySF (plainFor_of_name pn_java_lang_AbstractStringBuilder) hisR ?_
  intro p e s m args below meth c s₁ Bd hml0 hP hK
  obtain ⟨rfl, hZ, hh⟩ := hP
  have hx := Bd.exec
  have hby := Bd.bytes
  have hml : c.maxLocals = 6 := hml0
  have hown : s.vm.findClass "java/lang/AbstractStringBuilder" = some m.cls := findClass_of_methodNamed Bd.named
  have hnm := (name_of_methodNamed Bd.named Bd.method).1
  have X0 : Stand p l e ({ frames := 2, cells := 0, slots := 0, locals := 29 } : Room) s m #[(.ref sb), (.int mn)] below meth c s₁ [] 0 0 := Stand.of_body Bd
  have e0 : s₁.heap = h0 := by rw [← hh, Bd.state]; rfl
  have N0 := Fr.nil n0
  have pre0 : ∀ t, Steps p.tables e below (s₁.setTop (mkF m 0 #[.val (.ref sb), .val (.int mn), .unset, .unset, .unset, .unset] [])) t → Steps p.tables e below (s₁.setTop (entryFrame m #[(.ref sb), (.int mn)] 6)) t := fun t k => castTop (ef_rmNC m sb mn) k
  have w_55 := hw _ (List.mem_of_getElem? (i := 55) rfl)
  have w_92 := hw _ (List.mem_of_getElem? (i := 92) rfl)
  have w_93 := hw _ (List.mem_of_getElem? (i := 93) rfl)
  have oz := OLD.1
  have lt_sb : sb < h0.size := P1.lt
  have lt_vb : vb < h0.size := P3.lt
  refine own_go (B := s₁.setTop (mkF m 0 #[.val (.ref sb), .val (.int mn), .unset, .unset, .unset, .unset] [])) pre0 ?_
  show ∃ t o, Steps p.tables e below (s₁.setTop (mkF m 0 #[.val (.ref sb), .val (.int mn), .unset, .unset, .unset, .unset] [])) t ∧ _
  refine own_go (fun _ => XS.aloadN X0.here hx rfl (hb hby d15_0) rfl rfl) ?_
  obtain ⟨T4, X4, e4, st4⟩ := getF X0 hx hZ hown (host := "") (Or.inl (hw _ (List.mem_of_getElem? (i := 53) rfl))) Via.refl e0 P1 (g := (mkF m 1 #[.val (.ref sb), .val (.int mn), .unset, .unset, .unset, .unset] [(.ref sb)])) rfl rfl (hb hby d15_1)
  refine own_go st4 ?_
  obtain ⟨cl5, Ar5, q5, S5, N5, H5, G5⟩ := id P3
  have ln5 : cl5.slots.size.toInt32 = cp := len_of S5 N5
  have al5 := X4.arraylength hx (by rw [e4]; exact Ar5.1) (State.isArrayOf_alike hZ.alike Ar5.2.1) (g := (mkF m 4 #[.val (.ref sb), .val (.int mn), .unset, .unset, .unset, .unset] [(.ref vb)])) rfl rfl (hb hby d15_4)
  rw [ln5] at al5
  refine own_go al5 ?_
  refine own_go (fun _ => XS.istoreN X4.here hx rfl (hb hby d15_5) rfl (l' := #[.val (.ref sb), .val (.int mn), .val (.int cp), .unset, .unset, .unset]) rfl) ?_
  refine own_go (fun _ => XS.iloadN X4.here hx rfl (hb hby d15_6) rfl) ?_
  refine own_go (fun _ => XS.aloadN X4.here hx rfl (hb hby d15_7) rfl rfl) ?_
  obtain ⟨T6, X6, e6, st6⟩ := getF X4 hx hZ hown (host := "") (Or.inl w_55) Via.refl e4 P2 (g := (mkF m 8 #[.val (.ref sb), .val (.int mn), .val (.int cp), .unset, .unset, .unset] [(.ref sb), (.int mn)])) rfl rfl (hb hby d15_8)
  refine own_go st6 ?_
  refine own_go (fun _ => XS.ishl X6.here hx rfl (hb hby d15_11) rfl) ?_
  show ∃ t o, Steps p.tables e below (T6.setTop (mkF m 12 #[.val (.ref sb), .val (.int mn), .val (.int cp), .unset, .unset, .unset] [(.int (mn <<< ((0 : Int32) &&& 31)))])) t ∧ _
  rw [own_shl0]
  show ∃ t o, Steps p.tables e below (T6.setTop (mkF m 12 #[.val (.ref sb), .val (.int mn), .val (.int cp), .unset, .unset, .unset] [(.int mn)])) t ∧ _
  refine own_go (fun _ => XS.istoreN X6.here hx rfl (hb hby d15_12) rfl (l' := #[.val (.ref sb), .val (.int mn), .val (.int cp), .val (.int mn), .unset, .unset]) rfl) ?_
  refine own_go (fun _ => XS.iloadN X6.here hx rfl (hb hby d15_13) rfl) ?_
  refine own_go (fun _ => XS.iloadN X6.here hx rfl (hb hby d15_14) rfl) ?_
  refine own_go (fun _ => XS.isub X6.here hx rfl (hb hby d15_15) rfl) ?_
  refine own_go (fun _ => XS.istore X6.here hx rfl (hb hby d15_16) rfl (l' := #[.val (.ref sb), .val (.int mn), .val (.int cp), .val (.int mn), .val (.int (mn - cp)), .unset]) rfl) ?_
  refine own_go (fun _ => XS.iloadN X6.here hx rfl (hb hby d15_18) rfl) ?_
  refine own_go (fun _ => XS.iload X6.here hx rfl (hb hby d15_19) rfl) ?_
  refine own_go (fun _ => XS.iloadN X6.here hx rfl (hb hby d15_21) rfl) ?_
  refine own_go (fun _ => XS.iconst X6.here hx rfl (hb hby d15_22)) ?_
  refine own_go (fun _ => XS.aloadN X6.here hx rfl (hb hby d15_23) rfl rfl) ?_
  show ∃ t o, Steps p.tables e below (T6.setTop (mkF m 24 #[.val (.ref sb), .val (.int mn), .val (.int cp), .val (.int mn), .val (.int (mn - cp)), .unset] [(.ref sb), (.int (2 : Int32)), (.int cp), (.int (mn - cp)), (.int cp)])) t ∧ _
  obtain ⟨T7, X7, e7, st7⟩ := getF X6 hx hZ hown (host := "") (Or.inl w_55) Via.refl e6 P2 (g := (mkF m 24 #[.val (.ref sb), .val (.int mn), .val (.int cp), .val (.int mn), .val (.int (mn - cp)), .unset] [(.ref sb), (.int (2 : Int32)), (.int cp), (.int (mn - cp)), (.int cp)])) rfl rfl (hb hby d15_24)
  refine own_go st7 ?_
  refine own_go (fun _ => XS.ishl X7.here hx rfl (hb hby d15_27) rfl) ?_
  refine own_go (fun _ => XS.iadd X7.here hx rfl (hb hby d15_28) rfl) ?_
  show ∃ t o, Steps p.tables e below (T7.setTop (mkF m 29 #[.val (.ref sb), .val (.int mn), .val (.int cp), .val (.int mn), .val (.int (mn - cp)), .unset] [(.int (cp + (2 : Int32))), (.int (mn - cp)), (.int cp)])) t ∧ _
  obtain ⟨_, _, ⟨T8, L8, k8, n8⟩, -, X8, ⟨Lc8, hQ8, l8, y8, z8⟩, st8⟩ := Jvm.LawKit.callS X7 hx (y := (⟨"jdk/internal/util/ArraysSupport", "newLength", "(III)I"⟩ : MethodName)) hown (mvT hZ (hw _ (List.mem_of_getElem? (i := 90) rfl))) (mvT hZ (hw _ (List.mem_of_getElem? (i := 91) rfl))) (mvT hZ w_92) (mvT hZ w_93) (by decide) (backOf (W := 0) (rmNL l Z a0 hw [] cp (mn - cp) ((cp + (2 : Int32))) h0 n0 Z0 OLD ((own_pos hm hcp hq (own_nl hm hcp hq rfl)).1 : (0 : Int32) < (cp + (if (mn - cp) < (cp + (2 : Int32)) then (cp + (2 : Int32)) else (mn - cp)))) ((own_pos hm hcp hq (own_nl hm hcp hq rfl)).2.1 : ¬ ((2147483639 : Int32) < (cp + (if (mn - cp) < (cp + (2 : Int32)) then (cp + (2 : Int32)) else (mn - cp)))))) hZ w_93 w_92 (by decide) (by decide)) (g := (mkF m 29 #[.val (.ref sb), .val (.int mn), .val (.int cp), .val (.int mn), .val (.int (mn - cp)), .unset] [(.int (cp + (2 : Int32))), (.int (mn - cp)), (.int cp)])) rfl (by rw [hml]; rfl) (argsL := [(.int cp), (.int (mn - cp)), (.int (cp + (2 : Int32)))]) (rest := []) (lenOf pd__28III_29I rfl) rfl (by show 2 * 0 + _ ≤ _; exact Nat.le_of_eq rfl) (hb hby d15_29) (fun _ _ => ⟨rfl, e7, (by decide : 0 + 0 ≤ _), (by decide : 0 + 0 ≤ _)⟩)
  dsimp only [Pt.U, Pt.locs, Pt.cells, Pt.slots] at X8 l8 y8 z8 st8 hQ8
  rw [l8, y8, z8] at X8
  obtain ⟨r1_8, rfl, Nq8, e8, H8_0⟩ := hQ8
  have N8 := Fr.app N0 Nq8
  refine own_go st8 ?_
  refine own_go (fun _ => XS.istore X8.here hx rfl (hb hby d15_32) rfl (l' := #[.val (.ref sb), .val (.int mn), .val (.int cp), .val (.int mn), .val (.int (mn - cp)), .val (.int r1_8)]) rfl) ?_
  refine own_go (fun _ => XS.iload X8.here hx rfl (hb hby d15_34) rfl) ?_
  refine own_go (fun _ => X8.ldcInt hx hown (mvT hZ (hw _ (List.mem_of_getElem? (i := 99) rfl))) (g := (mkF m 36 #[.val (.ref sb), .val (.int mn), .val (.int cp), .val (.int mn), .val (.int (mn - cp)), .val (.int r1_8)] [(.int r1_8)])) rfl (hb hby d15_36) _) ?_
  show ∃ t o, Steps p.tables e below (T8.setTop (mkF m 38 #[.val (.ref sb), .val (.int mn), .val (.int cp), .val (.int mn), .val (.int (mn - cp)), .val (.int r1_8)] [(.int (2147483647 : Int32)), (.int r1_8)])) t ∧ _
  have hd9 : ¬ (r1_8 = (2147483647 : Int32)) := (own_pos hm hcp hq (own_nl hm hcp hq H8_0)).2.2.1
  refine own_go (fun _ => XS.icmpYes X8.here hx rfl (pc0 := 38) (pc' := 51) rfl (hb hby d15_38) rfl (feq hd9).2 (by decide) (by decide)) ?_
  refine own_go (fun _ => XS.iload X8.here hx rfl (hb hby d15_51) rfl) ?_
  refine own_go (fun _ => XS.aloadN X8.here hx rfl (hb hby d15_53) rfl rfl) ?_
  obtain ⟨T10, X10, e10, st10⟩ := getF X8 hx hZ hown (host := "") (Or.inl w_55) Via.refl e8 P2 (g := (mkF m 54 #[.val (.ref sb), .val (.int mn), .val (.int cp), .val (.int mn), .val (.int (mn - cp)), .val (.int r1_8)] [(.ref sb), (.int r1_8)])) rfl rfl (hb hby d15_54)
  refine own_go st10 ?_
  refine own_go (fun _ => XS.ishr X10.here hx rfl (hb hby d15_57) rfl) ?_
  show ∃ t o, Steps p.tables e below (T10.setTop (mkF m 58 #[.val (.ref sb), .val (.int mn), .val (.int cp), .val (.int mn), .val (.int (mn - cp)), .val (.int r1_8)] [(.int (r1_8 >>> ((0 : Int32) &&& 31)))])) t ∧ _
  rw [own_shr0]
  show ∃ t o, Steps p.tables e below (T10.setTop (mkF m 58 #[.val (.ref sb), .val (.int mn), .val (.int cp), .val (.int mn), .val (.int (mn - cp)), .val (.int r1_8)] [(.int r1_8)])) t ∧ _
  obtain ⟨fs, hr, hrun, hended, hW, hsame⟩ := X10.leave (v := some (.int r1_8)) (fun h => by rw [Bd.returns] at h; cases h)
  refine ⟨_, _, ?_, hrun, hended, _, _, rfl, ?_, ⟨_, rfl⟩, hW, hsame.mono (by decide) (by decide)⟩
  · exact retI X10 hx Bd.returns (hb hby d15_58) hr
  · show Q_rmNC Z _ _ _ _ _ _ h0 n0 _ T10.heap _
    rw [e10]
    exact ⟨r1_8, rfl, N8, rfl, (own_nl hm hcp hq H8_0)⟩
theorem ef_rmCpo (m : MethodId) (x0 : Nat) (x1 : Int32) : entryFrame m #[(.ref x0), (.int x1)] 3 = mkF m 0 #[.val (.ref x0), .val (.int x1), .unset] [] := by first | (simp [entryFrame, mkF, argsToLocals, Value.category]; done) | rfl
theorem d18_0 : decode jdk_65_method_121_code 0 = .ok (.iload_n 1, 1) := by decide +kernel
theorem d18_1 : decode jdk_65_method_121_code 1 = .ok (.aload_n 0, 1) := by decide +kernel
theorem d18_2 : decode jdk_65_method_121_code 2 = .ok (.arraylength, 1) := by decide +kernel
theorem d18_3 : decode jdk_65_method_121_code 3 = .ok (.if_icmp .ne 11, 3) := by decide +kernel
theorem d18_14 : decode jdk_65_method_121_code 14 = .ok (.iload_n 1, 1) := by decide +kernel
theorem d18_15 : decode jdk_65_method_121_code 15 = .ok (.newarray .byte, 2) := by decide +kernel
theorem d18_17 : decode jdk_65_method_121_code 17 = .ok (.astore_n 2, 1) := by decide +kernel
theorem d18_18 : decode jdk_65_method_121_code 18 = .ok (.aload_n 0, 1) := by decide +kernel
theorem d18_19 : decode jdk_65_method_121_code 19 = .ok (.iconst 0, 1) := by decide +kernel
theorem d18_20 : decode jdk_65_method_121_code 20 = .ok (.aload_n 2, 1) := by decide +kernel
theorem d18_21 : decode jdk_65_method_121_code 21 = .ok (.iconst 0, 1) := by decide +kernel
theorem d18_22 : decode jdk_65_method_121_code 22 = .ok (.aload_n 0, 1) := by decide +kernel
theorem d18_23 : decode jdk_65_method_121_code 23 = .ok (.arraylength, 1) := by decide +kernel
theorem d18_24 : decode jdk_65_method_121_code 24 = .ok (.iload_n 1, 1) := by decide +kernel
theorem d18_25 : decode jdk_65_method_121_code 25 = .ok (.invokestatic 304, 3) := by decide +kernel
theorem d18_28 : decode jdk_65_method_121_code 28 = .ok (.invokestatic 150, 3) := by decide +kernel
theorem d18_31 : decode jdk_65_method_121_code 31 = .ok (.aload_n 2, 1) := by decide +kernel
theorem d18_32 : decode jdk_65_method_121_code 32 = .ok (.areturn, 1) := by decide +kernel
theorem pn_java_util_Arrays : plainName "java/util/Arrays" = true := by first | (simp [plainName, overriddenIn]; done) | decide +kernel
def Q_rmCpo (Z : State) (vb : Nat) (kv : ClassId) (cp : Int32) (us : List Value) (r2 : Int32) (h0 : Heap) (n0 : Nat) (v : Option Value) (h : Heap) (L : List Loc) : Prop := ∃ (nb : Nat), ∃ (kn : ClassId), v = some (.ref nb) ∧ Fr n0 L ∧ Keep h0 h [] ∧ Exa Z h nb "[B" ∧ Arv Z h nb kn .byte r2 us (.int (0 : Int32)) ∧ (h0.size ≤ nb)
set_option maxRecDepth 65536 in
set_option maxHeartbeats 40000000 in
theorem rmCpo (l : Launch) (Z : State) (a0 : Array Value) (hw : ∀ d ∈ tables_1, d.before a0 Z = true) (ws : List Jvm.Cond) (vb : Nat) (kv : ClassId) (cp : Int32) (us : List Value) (r2 : Int32) (h0 : Heap) (n0 : Nat) (Z0 : n0 ≤ h0.size) (P1 : Arv Z h0 vb kv .byte cp us (.int (0 : Int32))) (OLD : Old Z n0 h0) (hnc : ¬ (r2 = cp)) (hlt : ¬ (r2 < cp)) (hnn : ¬ (r2 < (0 : Int32))) (h250 : r2.toNatClampNeg ≤ 142) (hle : cp.toNatClampNeg ≤ r2.toNatClampNeg) (hcp : own_cap us cp) :
    MetFree l (⟨"java/util/Arrays", "copyOf", "([BI)[B"⟩ : MethodName) (head1 (Jvm.Cond.code (⟨"java/util/Arrays", "copyOf", "([BI)[B"⟩ : MethodName) jdk_65_method_121_code 3 (some (.array .byte)) :: ws) ({ frames := 1, cells := 1, slots := 142, locals := 18 } : Room)) (fun a U => a = #[(.ref vb), (.int r2)] ∧ Z.Warmed39 U.vm ∧ U.heap = h0) (fun _ _ _ _ _ => True) (fun _ U o U' => ∃ v L, o = .returned v ∧ Q_rmCpo Z vb kv cp us r2 h0 n0 v U'.heap L ∧ FrameEnd U o U' L ({ frames := 1, cells := 1, slots := 142, locals := 18 } : Room).cells ({ frames := 1, cells := 1, slots := 142, locals := 18 } : Room).slots) := by
  refine MetFree.of_bodySF (plainFor_of_name pn_java_util_Arrays) hisR ?_
  intro p e s m args below meth c s₁ Bd hml0 hP hK
  obtain ⟨rfl, hZ, hh⟩ := hP
  have hx := Bd.exec
  have hby := Bd.bytes
  have hml : c.maxLocals = 3 := hml0
  have hown : s.vm.findClass "java/util/Arrays" = some m.cls := findClass_of_methodNamed Bd.named
  have hnm := (name_of_methodNamed Bd.named Bd.method).1
  have X0 : Stand p l e ({ frames := 1, cells := 1, slots := 142, locals := 18 } : Room) s m #[(.ref vb), (.int r2)] below meth c s₁ [] 0 0 := Stand.of_body Bd
  have e0 : s₁.heap = h0 := by rw [← hh, Bd.state]; rfl
  have N0 := Fr.nil n0
  have pre0 : ∀ t, Steps p.tables e below (s₁.setTop (mkF m 0 #[.val (.ref vb), .val (.int r2), .unset] [])) t → Steps p.tables e below (s₁.setTop (entryFrame m #[(.ref vb), (.int r2)] 3)) t := fun t k => castTop (ef_rmCpo m vb r2) k
  have w_106 := hw _ (List.mem_of_getElem? (i := 106) rfl)
  have w_96 := hw _ (List.mem_of_getElem? (i := 96) rfl)
  have oz := OLD.1
  have lt_vb : vb < h0.size := P1.lt
  refine own_go (B := s₁.setTop (mkF m 0 #[.val (.ref vb), .val (.int r2), .unset] [])) pre0 ?_
  show ∃ t o, Steps p.tables e below (s₁.setTop (mkF m 0 #[.val (.ref vb), .val (.int r2), .unset] [])) t ∧ _
  refine own_go (fun _ => XS.iloadN X0.here hx rfl (hb hby d18_0) rfl) ?_
  refine own_go (fun _ => XS.aloadN X0.here hx rfl (hb hby d18_1) rfl rfl) ?_
  obtain ⟨cl2, Ar2, q2, S2, N2, H2, G2⟩ := id P1
  have ln2 : cl2.slots.size.toInt32 = cp := len_of S2 N2
  have al2 := X0.arraylength hx (by rw [e0]; exact Ar2.1) (State.isArrayOf_alike hZ.alike Ar2.2.1) (g := (mkF m 2 #[.val (.ref vb), .val (.int r2), .unset] [(.ref vb), (.int r2)])) rfl rfl (hb hby d18_2)
  rw [ln2] at al2
  refine own_go al2 ?_
  show ∃ t o, Steps p.tables e below (s₁.setTop (mkF m 3 #[.val (.ref vb), .val (.int r2), .unset] [(.int cp), (.int r2)])) t ∧ _
  refine own_go (fun _ => XS.icmpYes X0.here hx rfl (pc0 := 3) (pc' := 14) rfl (hb hby d18_3) rfl (feq hnc).2 (by decide) (by decide)) ?_
  refine own_go (fun _ => XS.iloadN X0.here hx rfl (hb hby d18_14) rfl) ?_
  show ∃ t o, Steps p.tables e below (s₁.setTop (mkF m 15 #[.val (.ref vb), .val (.int r2), .unset] [(.int r2)])) t ∧ _
  obtain ⟨T3, h3, k3, X3, e3, E3, A3, Q3, st3⟩ := newPE (aty := .byte) X0 hx hZ (hw _ (List.mem_of_getElem? (i := 19) rfl)) e0 (g := (mkF m 15 #[.val (.ref vb), .val (.int r2), .unset] [(.int r2)])) rfl (hb hby d18_15) rfl hnn (cap := 142) h250 (by decide) (by decide) (by decide) (ad := "[B") rfl
  obtain ⟨b3, g3⟩ : ∃ z, z = h0.size := ⟨_, rfl⟩
  rw [← g3] at A3 Q3 st3
  refine own_go st3 ?_
  have le_3 : h0.size ≤ h3.size := E3.1
  have lt_b3 : b3 < h3.size := A3.lt
  have V_b3 : Arv Z h3 b3 k3 .byte r2 [] (.int (0 : Int32)) := Arv.new A3 hnn
  have K3 : Keep h0 h3 [] := Keep.ext (Keep.refl h0 []) E3
  refine own_go (fun _ => XS.astoreN X3.here hx rfl (hb hby d18_17) rfl rfl (l' := #[.val (.ref vb), .val (.int r2), .val (.ref b3)]) rfl) ?_
  refine own_go (fun _ => XS.aloadN X3.here hx rfl (hb hby d18_18) rfl rfl) ?_
  refine own_go (fun _ => XS.iconst X3.here hx rfl (hb hby d18_19)) ?_
  refine own_go (fun _ => XS.aloadN X3.here hx rfl (hb hby d18_20) rfl rfl) ?_
  refine own_go (fun _ => XS.iconst X3.here hx rfl (hb hby d18_21)) ?_
  refine own_go (fun _ => XS.aloadN X3.here hx rfl (hb hby d18_22) rfl rfl) ?_
  have F4 := (P1.ext E3)
  obtain ⟨cl5, Ar5, q5, S5, N5, H5, G5⟩ := id F4
  have ln5 : cl5.slots.size.toInt32 = cp := len_of S5 N5
  have al5 := X3.arraylength hx (by rw [e3]; exact Ar5.1) (State.isArrayOf_alike hZ.alike Ar5.2.1) (g := (mkF m 23 #[.val (.ref vb), .val (.int r2), .val (.ref b3)] [(.ref vb), (.int (0 : Int32)), (.ref b3), (.int (0 : Int32)), (.ref vb)])) rfl rfl (hb hby d18_23)
  rw [ln5] at al5
  refine own_go al5 ?_
  refine own_go (fun _ => XS.iloadN X3.here hx rfl (hb hby d18_24) rfl) ?_
  show ∃ t o, Steps p.tables e below (T3.setTop (mkF m 25 #[.val (.ref vb), .val (.int r2), .val (.ref b3)] [(.int r2), (.int cp), (.int (0 : Int32)), (.ref b3), (.int (0 : Int32)), (.ref vb)])) t ∧ _
  have F6 := (OLD.ext E3)
  have zl7 : n0 ≤ h3.size := by omega
  obtain ⟨_, _, ⟨T8, L8, k8, n8⟩, -, X8, ⟨Lc8, hQ8, l8, y8, z8⟩, st8⟩ := Jvm.LawKit.callS X3 hx (y := (⟨"java/lang/Math", "min", "(II)I"⟩ : MethodName)) hown (mvT hZ (hw _ (List.mem_of_getElem? (i := 104) rfl))) (mvT hZ (hw _ (List.mem_of_getElem? (i := 105) rfl))) (mvT hZ w_96) (mvT hZ w_106) (by decide) (backOf (W := 4) (rmMinA l Z a0 hw [] cp r2 h3 n0 zl7 F6 hlt) hZ w_106 w_96 (by decide) (by decide)) (g := (mkF m 25 #[.val (.ref vb), .val (.int r2), .val (.ref b3)] [(.int r2), (.int cp), (.int (0 : Int32)), (.ref b3), (.int (0 : Int32)), (.ref vb)])) rfl (by rw [hml]; rfl) (argsL := [(.int cp), (.int r2)]) (rest := [(.int (0 : Int32)), (.ref b3), (.int (0 : Int32)), (.ref vb)]) (lenOf pd__28II_29I rfl) rfl (by show 2 * 0 + _ ≤ _; exact Nat.le_of_eq rfl) (hb hby d18_25) (fun _ _ => ⟨rfl, e3, (by decide : 1 + 0 ≤ _), (by decide : 142 + 0 ≤ _)⟩)
  dsimp only [Pt.U, Pt.locs, Pt.cells, Pt.slots] at X8 l8 y8 z8 st8 hQ8
  rw [l8, y8, z8] at X8
  obtain ⟨rfl, Nq8, e8⟩ := hQ8
  have N8 := Fr.app N0 Nq8
  refine own_go st8 ?_
  show ∃ t o, Steps p.tables e below (T8.setTop (mkF m 28 #[.val (.ref vb), .val (.int r2), .val (.ref b3)] [(.int cp), (.int (0 : Int32)), (.ref b3), (.int (0 : Int32)), (.ref vb)])) t ∧ _
  have ge9 : n0 ≤ b3 := by omega
  obtain ⟨T10, h10, L10, X10, e10, N10, Kp10, V10, st10⟩ := own_cp0 X8 hx hZ hown (hw _ (List.mem_of_getElem? (i := 107) rfl)) (hw _ (List.mem_of_getElem? (i := 110) rfl)) (hw _ (List.mem_of_getElem? (i := 108) rfl)) (hw _ (List.mem_of_getElem? (i := 109) rfl)) e8 F4 V_b3 (own_cap.le hcp) (own_cap.nn hcp) (Nat.le_refl _) hle N8 ge9 (g := (mkF m 28 #[.val (.ref vb), .val (.int r2), .val (.ref b3)] [(.int cp), (.int (0 : Int32)), (.ref b3), (.int (0 : Int32)), (.ref vb)])) rfl (by rw [hml]; rfl) rfl (hb hby d18_28) (by decide) (W := 0) (by show 2 * 0 + _ ≤ _; exact Nat.le_of_eq rfl) (by decide +kernel)
  refine own_go st10 ?_
  have le_10 : h3.size ≤ h10.size := Kp10.1
  have sz11 : h0.size ≤ b3 := by omega
  have K10 : Keep h0 h10 [] := Keep.trans K3 Kp10 (allS (Or.inr sz11) all0)
  refine own_go (fun _ => XS.aloadN X10.here hx rfl (hb hby d18_31) rfl rfl) ?_
  show ∃ t o, Steps p.tables e below (T10.setTop (mkF m 32 #[.val (.ref vb), .val (.int r2), .val (.ref b3)] [(.ref b3)])) t ∧ _
  have F12 := (Exa.keep Q3 Kp10)
  obtain ⟨fs, hr, hrun, hended, hW, hsame⟩ := X10.leave (v := some (.ref b3)) (fun h => by rw [Bd.returns] at h; cases h)
  refine ⟨_, _, ?_, hrun, hended, _, _, rfl, ?_, ⟨_, rfl⟩, hW, hsame.mono (by decide) (by decide)⟩
  · jvm_step X10.here [X10.here.top, hx, (hb hby d18_32), X10.method', Bd.returns, Value.isRef, FieldType.isReference]
    first | (intro acts; rw [hr _ acts rfl rfl rfl]) | rw [hr _ _ rfl rfl rfl]
    exact Steps.refl _
  · show Q_rmCpo Z _ _ _ _ _ h0 n0 _ T10.heap _
    rw [e10]
    exact ⟨b3, k3, rfl, N10, K10, F12, V10, (by omega)⟩
theorem ef_rmEns (m : MethodId) (x0 : Nat) (x1 : Int32) : entryFrame m #[(.ref x0), (.int x1)] 3 = mkF m 0 #[.val (.ref x0), .val (.int x1), .unset] [] := by first | (simp [entryFrame, mkF, argsToLocals, Value.category]; done) | rfl
theorem d14_0 : decode jdk_68_method_9_code 0 = .ok (.aload_n 0, 1) := by decide +kernel
theorem d14_1 : decode jdk_68_method_9_code 1 = .ok (.getfield 15, 3) := by decide +kernel
theorem d14_4 : decode jdk_68_method_9_code 4 = .ok (.arraylength, 1) := by decide +kernel
theorem d14_5 : decode jdk_68_method_9_code 5 = .ok (.aload_n 0, 1) := by decide +kernel
theorem d14_6 : decode jdk_68_method_9_code 6 = .ok (.getfield 22, 3) := by decide +kernel
theorem d14_9 : decode jdk_68_method_9_code 9 = .ok (.ishr, 1) := by decide +kernel
theorem d14_10 : decode jdk_68_method_9_code 10 = .ok (.istore_n 2, 1) := by decide +kernel
theorem d14_11 : decode jdk_68_method_9_code 11 = .ok (.iload_n 1, 1) := by decide +kernel
theorem d14_12 : decode jdk_68_method_9_code 12 = .ok (.iload_n 2, 1) := by decide +kernel
theorem d14_13 : decode jdk_68_method_9_code 13 = .ok (.isub, 1) := by decide +kernel
theorem d14_14 : decode jdk_68_method_9_code 14 = .ok (.ifCond .le 24, 3) := by decide +kernel
theorem d14_17 : decode jdk_68_method_9_code 17 = .ok (.aload_n 0, 1) := by decide +kernel
theorem d14_18 : decode jdk_68_method_9_code 18 = .ok (.aload_n 0, 1) := by decide +kernel
theorem d14_19 : decode jdk_68_method_9_code 19 = .ok (.getfield 15, 3) := by decide +kernel
theorem d14_22 : decode jdk_68_method_9_code 22 = .ok (.aload_n 0, 1) := by decide +kernel
theorem d14_23 : decode jdk_68_method_9_code 23 = .ok (.iload_n 1, 1) := by decide +kernel
theorem d14_24 : decode jdk_68_method_9_code 24 = .ok (.invokevirtual 104, 3) := by decide +kernel
theorem pd__28I_29I : parseMethodDescriptor "(I)I" = some ⟨[.int], some .int⟩ := by decide +kernel
theorem d14_27 : decode jdk_68_method_9_code 27 = .ok (.aload_n 0, 1) := by decide +kernel
theorem d14_28 : decode jdk_68_method_9_code 28 = .ok (.getfield 22, 3) := by decide +kernel
theorem d14_31 : decode jdk_68_method_9_code 31 = .ok (.ishl, 1) := by decide +kernel
theorem d14_32 : decode jdk_68_method_9_code 32 = .ok (.invokestatic 108, 3) := by decide +kernel
theorem pd__28_5bBI_29_5bB : parseMethodDescriptor "([BI)[B" = some ⟨[(.array .byte), .int], some (.array .byte)⟩ := by decide +kernel
theorem d14_35 : decode jdk_68_method_9_code 35 = .ok (.putfield 15, 3) := by decide +kernel
theorem d14_38 : decode jdk_68_method_9_code 38 = .ok (.return_, 1) := by decide +kernel
def Q_rmEns (Z : State) (sb : Nat) (vb : Nat) (kv : ClassId) (cp : Int32) (us : List Value) (cn : Int32) (mn : Int32) (h0 : Heap) (n0 : Nat) (v : Option Value) (h : Heap) (L : List Loc) : Prop := ∃ (vb2 : Nat), ∃ (kv2 : ClassId), ∃ (cp2 : Int32), v = none ∧ Fr n0 L ∧ Keep h0 h [sb] ∧ Exa Z h sb "java/lang/StringBuilder" ∧ Fld Z h sb "java/lang/AbstractStringBuilder" "value" "[B" (.ref vb2) ∧ Fld Z h sb "java/lang/AbstractStringBuilder" "coder" "B" (.int (0 : Int32)) ∧ Fld Z h sb "java/lang/AbstractStringBuilder" "count" "I" (.int cn) ∧ Exa Z h vb2 "[B" ∧ Arv Z h vb2 kv2 .byte cp2 us (.int (0 : Int32)) ∧ Fld Z h sb "java/lang/AbstractStringBuilder" "maybeLatin1" "Z" (.int (0 : Int32)) ∧ (own_cap us cp2) ∧ (mn.toInt ≤ cp2.toInt) ∧ (vb2 = vb ∨ h0.size ≤ vb2) ∧ (sb ≠ vb2) ∧ (n0 ≤ vb2) ∧ (cp2 = cp ∨ cp2.toInt = 2 * cp.toInt + 2)
set_option maxRecDepth 65536 in
set_option maxHeartbeats 40000000 in
theorem rmEns (l : Launch) (Z : State) (a0 : Array Value) (hw : ∀ d ∈ tables_1, d.before a0 Z = true) (ws : List Jvm.Cond) (sb : Nat) (vb : Nat) (kv : ClassId) (cp : Int32) (us : List Value) (cn : Int32) (mn : Int32) (h0 : Heap) (n0 : Nat) (Z0 : n0 ≤ h0.size) (P1 : Exa Z h0 sb "java/lang/StringBuilder") (P2 : Fld Z h0 sb "java/lang/AbstractStringBuilder" "value" "[B" (.ref vb)) (P3 : Fld Z h0 sb "java/lang/AbstractStringBuilder" "coder" "B" (.int (0 : Int32))) (P4 : Fld Z h0 sb "java/lang/AbstractStringBuilder" "count" "I" (.int cn)) (P5 : Exa Z h0 vb "[B") (P6 : Arv Z h0 vb kv .byte cp us (.int (0 : Int32))) (P7 : Fld Z h0 sb "java/lang/AbstractStringBuilder" "maybeLatin1" "Z" (.int (0 : Int32))) (OLD : Old Z n0 h0) (hm : own_mn mn cp) (hcp : own_cap us cp) (gsb : n0 ≤ sb) (gvb : n0 ≤ vb) (hne : sb ≠ vb) :
    MetFree l (⟨"java/lang/AbstractStringBuilder", "ensureCapacityInternal", "(I)V"⟩ : MethodName) (head1 (Jvm.Cond.code (⟨"java/lang/AbstractStringBuilder", "ensureCapacityInternal", "(I)V"⟩ : MethodName) jdk_68_method_9_code 3 none :: ws) ({ frames := 3, cells := 1, slots := 142, locals := 48 } : Room)) (fun a U => a = #[(.ref sb), (.int mn)] ∧ Z.Warmed39 U.vm ∧ U.heap = h0) (fun _ _ _ _ _ => True) (fun _ U o U' => ∃ v L, o = .returned v ∧ Q_rmEns Z sb vb kv cp us cn mn h0 n0 v U'.heap L ∧ FrameEnd U o U' L ({ frames := 3, cells := 1, slots := 142, locals := 48 } : Room).cells ({ frames := 3, cells := 1, slots := 142, locals := 48 } : Room).slots) := by
  refine MetFree.of_bodySF (plainFor_of_name pn_java_lang_AbstractStringBuilder) hisR ?_
  intro p e s m args below meth c s₁ Bd hml0 hP hK
  obtain ⟨rfl, hZ, hh⟩ := hP
  have hx := Bd.exec
  have hby := Bd.bytes
  have hml : c.maxLocals = 3 := hml0
  have hown : s.vm.findClass "java/lang/AbstractStringBuilder" = some m.cls := findClass_of_methodNamed Bd.named
  have hnm := (name_of_methodNamed Bd.named Bd.method).1
  have X0 : Stand p l e ({ frames := 3, cells := 1, slots := 142, locals := 48 } : Room) s m #[(.ref sb), (.int mn)] below meth c s₁ [] 0 0 := Stand.of_body Bd
  have e0 : s₁.heap = h0 := by rw [← hh, Bd.state]; rfl
  have N0 := Fr.nil n0
  have pre0 : ∀ t, Steps p.tables e below (s₁.setTop (mkF m 0 #[.val (.ref sb), .val (.int mn), .unset] [])) t → Steps p.tables e below (s₁.setTop (entryFrame m #[(.ref sb), (.int mn)] 3)) t := fun t k => castTop (ef_rmEns m sb mn) k
  have w_102 := hw _ (List.mem_of_getElem? (i := 102) rfl)
  have w_103 := hw _ (List.mem_of_getElem? (i := 103) rfl)
  have w_53 := hw _ (List.mem_of_getElem? (i := 53) rfl)
  have w_54 := hw _ (List.mem_of_getElem? (i := 54) rfl)
  have w_55 := hw _ (List.mem_of_getElem? (i := 55) rfl)
  have w_86 := hw _ (List.mem_of_getElem? (i := 86) rfl)
  have w_87 := hw _ (List.mem_of_getElem? (i := 87) rfl)
  have w_89 := hw _ (List.mem_of_getElem? (i := 89) rfl)
  have oz := OLD.1
  have lt_sb : sb < h0.size := P1.lt
  have lt_vb : vb < h0.size := P5.lt
  refine own_go (B := s₁.setTop (mkF m 0 #[.val (.ref sb), .val (.int mn), .unset] [])) pre0 ?_
  show ∃ t o, Steps p.tables e below (s₁.setTop (mkF m 0 #[.val (.ref sb), .val (.int mn), .unset] [])) t ∧ _
  refine own_go (fun _ => XS.aloadN X0.here hx rfl (hb hby d14_0) rfl rfl) ?_
  obtain ⟨T8, X8, e8, st8⟩ := getF X0 hx hZ hown (host := "") (Or.inl w_53) Via.refl e0 P2 (g := (mkF m 1 #[.val (.ref sb), .val (.int mn), .unset] [(.ref sb)])) rfl rfl (hb hby d14_1)
  refine own_go st8 ?_
  obtain ⟨cl9, Ar9, q9, S9, N9, H9, G9⟩ := id P6
  have ln9 : cl9.slots.size.toInt32 = cp := len_of S9 N9
  have al9 := X8.arraylength hx (by rw [e8]; exact Ar9.1) (State.isArrayOf_alike hZ.alike Ar9.2.1) (g := (mkF m 4 #[.val (.ref sb), .val (.int mn), .unset] [(.ref vb)])) rfl rfl (hb hby d14_4)
  rw [ln9] at al9
  refine own_go al9 ?_
  refine own_go (fun _ => XS.aloadN X8.here hx rfl (hb hby d14_5) rfl rfl) ?_
  obtain ⟨T10, X10, e10, st10⟩ := getF X8 hx hZ hown (host := "") (Or.inl w_55) Via.refl e8 P3 (g := (mkF m 6 #[.val (.ref sb), .val (.int mn), .unset] [(.ref sb), (.int cp)])) rfl rfl (hb hby d14_6)
  refine own_go st10 ?_
  refine own_go (fun _ => XS.ishr X10.here hx rfl (hb hby d14_9) rfl) ?_
  show ∃ t o, Steps p.tables e below (T10.setTop (mkF m 10 #[.val (.ref sb), .val (.int mn), .unset] [(.int (cp >>> ((0 : Int32) &&& 31)))])) t ∧ _
  rw [own_shr0]
  show ∃ t o, Steps p.tables e below (T10.setTop (mkF m 10 #[.val (.ref sb), .val (.int mn), .unset] [(.int cp)])) t ∧ _
  refine own_go (fun _ => XS.istoreN X10.here hx rfl (hb hby d14_10) rfl (l' := #[.val (.ref sb), .val (.int mn), .val (.int cp)]) rfl) ?_
  refine own_go (fun _ => XS.iloadN X10.here hx rfl (hb hby d14_11) rfl) ?_
  refine own_go (fun _ => XS.iloadN X10.here hx rfl (hb hby d14_12) rfl) ?_
  refine own_go (fun _ => XS.isub X10.here hx rfl (hb hby d14_13) rfl) ?_
  show ∃ t o, Steps p.tables e below (T10.setTop (mkF m 14 #[.val (.ref sb), .val (.int mn), .val (.int cp)] [(.int (mn - cp))])) t ∧ _
  by_cases hc11 : (0 : Int32) < (mn - cp)
  · refine own_go (fun _ => XS.ifNo X10.here hx rfl (hb hby d14_14) rfl ((if0 _ _).trans (tlt hc11).2.2.2)) ?_
    refine own_go (fun _ => XS.aloadN X10.here hx rfl (hb hby d14_17) rfl rfl) ?_
    refine own_go (fun _ => XS.aloadN X10.here hx rfl (hb hby d14_18) rfl rfl) ?_
    obtain ⟨T12, X12, e12, st12⟩ := getF X10 hx hZ hown (host := "") (Or.inl w_53) Via.refl e10 P2 (g := (mkF m 19 #[.val (.ref sb), .val (.int mn), .val (.int cp)] [(.ref sb), (.ref sb)])) rfl rfl (hb hby d14_19)
    refine own_go st12 ?_
    refine own_go (fun _ => XS.aloadN X12.here hx rfl (hb hby d14_22) rfl rfl) ?_
    refine own_go (fun _ => XS.iloadN X12.here hx rfl (hb hby d14_23) rfl) ?_
    show ∃ t o, Steps p.tables e below (T12.setTop (mkF m 24 #[.val (.ref sb), .val (.int mn), .val (.int cp)] [(.int mn), (.ref sb), (.ref vb), (.ref sb)])) t ∧ _
    obtain ⟨cq13, q13, q13'⟩ := P1.cell
    obtain ⟨_, _, ⟨T13, L13, k13, n13⟩, -, X13, ⟨Lc13, hQ13, l13, y13, z13⟩, st13⟩ := X12.privateBack hx (y := (⟨"java/lang/AbstractStringBuilder", "newCapacity", "(I)I"⟩ : MethodName)) hown (mvT hZ (hw _ (List.mem_of_getElem? (i := 85) rfl))) (mvT hZ w_86) (mvT hZ (own_selp (y := (⟨"java/lang/AbstractStringBuilder", "newCapacity", "(I)I"⟩ : MethodName)) (hw _ (List.mem_of_getElem? (i := 83) rfl)) rfl w_87 w_86 (by decide))) (Cond.privateMethod_at (mvP hZ w_87 (args := #[]))) (mvT hZ w_89) (by decide) (backOf (W := 2) (rmNC l Z a0 hw [] sb vb kv cp us mn h0 n0 Z0 P2 P3 P6 OLD hm hcp hc11) hZ w_89 (hw _ (List.mem_of_getElem? (i := 49) rfl)) (by decide) (by decide)) (g := (mkF m 24 #[.val (.ref sb), .val (.int mn), .val (.int cp)] [(.int mn), (.ref sb), (.ref vb), (.ref sb)])) rfl (by rw [hml]; rfl) (Steps.refl _) (a := sb) (by rw [e12]; exact q13) q13' (argsL := [(.int mn)]) (rest := [(.ref vb), (.ref sb)]) (lenOf pd__28I_29I rfl) rfl (by show 2 * 0 + _ ≤ _; exact Nat.le_of_eq rfl) (hb hby d14_24) (fun _ _ => ⟨rfl, e12, (by decide : 0 + 0 ≤ _), (by decide : 0 + 0 ≤ _)⟩)
    dsimp only [Pt.U, Pt.locs, Pt.cells, Pt.slots] at X13 l13 y13 z13 st13 hQ13
    rw [l13, y13, z13] at X13
    obtain ⟨r2_13, rfl, Nq13, e13, H13_0⟩ := hQ13
    have N13 := Fr.app N0 Nq13
    refine own_goT st13 ?_
    refine own_go (fun _ => XS.aloadN X13.here hx rfl (hb hby d14_27) rfl rfl) ?_
    obtain ⟨T14, X14, e14, st14⟩ := getF X13 hx hZ hown (host := "") (Or.inl w_55) Via.refl e13 P3 (g := (mkF m 28 #[.val (.ref sb), .val (.int mn), .val (.int cp)] [(.ref sb), (.int r2_13), (.ref vb), (.ref sb)])) rfl rfl (hb hby d14_28)
    refine own_go st14 ?_
    refine own_go (fun _ => XS.ishl X14.here hx rfl (hb hby d14_31) rfl) ?_
    show ∃ t o, Steps p.tables e below (T14.setTop (mkF m 32 #[.val (.ref sb), .val (.int mn), .val (.int cp)] [(.int (r2_13 <<< ((0 : Int32) &&& 31))), (.ref vb), (.ref sb)])) t ∧ _
    rw [own_shl0]
    show ∃ t o, Steps p.tables e below (T14.setTop (mkF m 32 #[.val (.ref sb), .val (.int mn), .val (.int cp)] [(.int r2_13), (.ref vb), (.ref sb)])) t ∧ _
    obtain ⟨_, _, ⟨T15, L15, k15, n15⟩, -, X15, ⟨Lc15, hQ15, l15, y15, z15⟩, st15⟩ := Jvm.LawKit.callS X14 hx (y := (⟨"java/util/Arrays", "copyOf", "([BI)[B"⟩ : MethodName)) hown (mvT hZ (hw _ (List.mem_of_getElem? (i := 100) rfl))) (mvT hZ (hw _ (List.mem_of_getElem? (i := 101) rfl))) (mvT hZ w_102) (mvT hZ w_103) (by decide) (backOf (W := 1) (rmCpo l Z a0 hw [] vb kv cp us r2_13 h0 n0 Z0 P6 OLD ((own_pos hm hcp hc11 H13_0).2.2.2.1 : ¬ (r2_13 = cp)) ((own_pos hm hcp hc11 H13_0).2.2.2.2.1 : ¬ (r2_13 < cp)) ((own_pos hm hcp hc11 H13_0).2.2.2.2.2.1 : ¬ (r2_13 < (0 : Int32))) ((own_pos hm hcp hc11 H13_0).2.2.2.2.2.2.2.1 : r2_13.toNatClampNeg ≤ 142) ((own_pos hm hcp hc11 H13_0).2.2.2.2.2.2.2.2 : cp.toNatClampNeg ≤ r2_13.toNatClampNeg) hcp) hZ w_103 w_102 (by decide) (by decide)) (g := (mkF m 32 #[.val (.ref sb), .val (.int mn), .val (.int cp)] [(.int r2_13), (.ref vb), (.ref sb)])) rfl (by rw [hml]; rfl) (argsL := [(.ref vb), (.int r2_13)]) (rest := [(.ref sb)]) (lenOf pd__28_5bBI_29_5bB rfl) rfl (by show 2 * 0 + _ ≤ _; exact Nat.le_of_eq rfl) (hb hby d14_32) (fun _ _ => ⟨rfl, e14, (by decide : 0 + 1 ≤ _), (by decide : 0 + 142 ≤ _)⟩)
    dsimp only [Pt.U, Pt.locs, Pt.cells, Pt.slots] at X15 l15 y15 z15 st15 hQ15
    rw [l15, y15, z15] at X15
    obtain ⟨nb_15, kn_15, rfl, Nq15, Kp15, G15_0, G15_1, H15_0⟩ := hQ15
    have N15 := Fr.app N13 Nq15
    refine own_go st15 ?_
    have le_15 : h0.size ≤ T15.heap.size := Kp15.1
    have K15 : Keep h0 T15.heap [sb] := Keep.trans (Keep.refl h0 [sb]) Kp15 all0
    have lt_nb_15 : nb_15 < T15.heap.size := (G15_0).lt
    have F16 := (Exa.keep P1 Kp15)
    have F17 := (Fld.keep P2 Kp15 nin0)
    obtain ⟨T18, h18, X18, e18, W18, st18⟩ := putF X15 hx hZ hown (host := "") (Or.inl w_53) Via.refl rfl F17 F16 (Or.inl w_54) (hw _ (List.mem_of_getElem? (i := 40) rfl)) (ty := (.array .byte)) (by decide) rfl rfl (g := (mkF m 35 #[.val (.ref sb), .val (.int mn), .val (.int cp)] [(.ref nb_15), (.ref sb)])) rfl rfl (hb hby d14_35)
    refine own_go st18 ?_
    have le_18 : T15.heap.size ≤ h18.size := Nat.le_of_eq W18.size.symm
    have K18 : Keep h0 h18 [sb] := Keep.wr K15 W18 (Or.inl (List.mem_of_getElem? (i := 0) rfl))
    have N18 := Fr.snoc X18 N15 gsb
    have Fw18 := Fld.same W18 F17
    show ∃ t o, Steps p.tables e below (T18.setTop (mkF m 38 #[.val (.ref sb), .val (.int mn), .val (.int cp)] [])) t ∧ _
    have F19 := (Exa.wr W18 F16)
    have F20 := (Fld.other W18 (Fld.keep P3 Kp15 nin0) (Or.inr (slot_ne (a0 := a0) (Or.inl (hw _ (List.mem_of_getElem? (i := 56) rfl))) (Or.inl w_54) (by decide) (t := .byte) (t' := (.array .byte)) (by decide) (by decide))))
    have F21 := (Fld.other W18 (Fld.keep P4 Kp15 nin0) (Or.inr (slot_ne (a0 := a0) (Or.inl (hw _ (List.mem_of_getElem? (i := 79) rfl))) (Or.inl w_54) (by decide) (t := .int) (t' := (.array .byte)) (by decide) (by decide))))
    have F22 := (Exa.wr W18 G15_0)
    have ne23 : nb_15 ≠ sb := own_ne (by omega)
    have F24 := (Arv.other G15_1 W18 ne23)
    have F25 := (Fld.other W18 (Fld.keep P7 Kp15 nin0) (Or.inr (slot_ne (a0 := a0) (Or.inl (hw _ (List.mem_of_getElem? (i := 254) rfl))) (Or.inl w_54) (by decide) (t := .boolean) (t' := (.array .byte)) (by decide) (by decide))))
    have ne26 : sb ≠ nb_15 := own_ne (by omega)
    obtain ⟨fs, hr, hrun, hended, hW, hsame⟩ := X18.leave (v := none) (fun _ => rfl)
    refine ⟨_, _, ?_, hrun, hended, _, _, rfl, ?_, ⟨_, rfl⟩, hW, hsame.mono (by decide) (by decide)⟩
    · exact X18.returnOut hx Bd.returns (hb hby d14_38) hr
    · show Q_rmEns Z _ _ _ _ _ _ _ h0 n0 _ T18.heap _
      rw [e18]
      exact ⟨nb_15, kn_15, r2_13, rfl, N18, K18, F19, Fw18, F20, F21, F22, F24, F25, (own_pos hm hcp hc11 H13_0).2.2.2.2.2.2.1, H13_0.1, (Or.inr (by omega)), ne26, (by omega), (Or.inr (by omega))⟩
  · refine own_go (fun _ => XS.ifYes X10.here hx rfl (pc0 := 14) (pc' := 38) rfl (hb hby d14_14) rfl ((if0 _ _).trans (flt hc11).2.2.2) (by decide) (by decide)) ?_
    show ∃ t o, Steps p.tables e below (T10.setTop (mkF m 38 #[.val (.ref sb), .val (.int mn), .val (.int cp)] [])) t ∧ _
    obtain ⟨fs, hr, hrun, hended, hW, hsame⟩ := X10.leave (v := none) (fun _ => rfl)
    refine ⟨_, _, ?_, hrun, hended, _, _, rfl, ?_, ⟨_, rfl⟩, hW, hsame.mono (by decide) (by decide)⟩
    · exact X10.returnOut hx Bd.returns (hb hby d14_38) hr
    · show Q_rmEns Z _ _ _ _ _ _ _ h0 n0 _ T10.heap _
      rw [e10]
      exact ⟨vb, kv, cp, rfl, N0, (Keep.refl h0 [sb]), P1, P2, P3, P4, P5, P6, P7, hcp, (Int.not_lt.mp (mt (own_gt hm hcp).mpr hc11)), (Or.inl rfl), hne, gvb, (Or.inl rfl)⟩
theorem ef_rmInf (m : MethodId) (x0 : Nat) (x1 : Nat) : entryFrame m #[(.ref x0), (.ref x1)] 2 = mkF m 0 #[.val (.ref x0), .val (.ref x1)] [] := by first | (simp [entryFrame, mkF, argsToLocals, Value.category]; done) | rfl
theorem d21_0 : decode jdk_68_method_71_code 0 = .ok (.getstatic 18, 3) := by decide +kernel
theorem d21_3 : decode jdk_68_method_71_code 3 = .ok (.ifCond .eq 18, 3) := by decide +kernel
theorem d21_6 : decode jdk_68_method_71_code 6 = .ok (.aload_n 0, 1) := by decide +kernel
theorem d21_7 : decode jdk_68_method_71_code 7 = .ok (.getfield 22, 3) := by decide +kernel
theorem d21_10 : decode jdk_68_method_71_code 10 = .ok (.aload_n 1, 1) := by decide +kernel
theorem d21_11 : decode jdk_68_method_71_code 11 = .ok (.invokevirtual 40, 3) := by decide +kernel
theorem d21_14 : decode jdk_68_method_71_code 14 = .ok (.if_icmp .eq 7, 3) := by decide +kernel
theorem d21_21 : decode jdk_68_method_71_code 21 = .ok (.return_, 1) := by decide +kernel
def Q_rmInf (Z : State) (sb : Nat) (so : Nat) (zc : Int32) (h0 : Heap) (n0 : Nat) (v : Option Value) (h : Heap) (L : List Loc) : Prop := v = none ∧ Fr n0 L ∧ h = h0
set_option maxRecDepth 65536 in
set_option maxHeartbeats 40000000 in
theorem rmInf (l : Launch) (Z : State) (a0 : Array Value) (hw : ∀ d ∈ tables_1, d.before a0 Z = true) (ws : List Jvm.Cond) (sb : Nat) (so : Nat) (zc : Int32) (h0 : Heap) (n0 : Nat) (Z0 : n0 ≤ h0.size) (P1 : Exa Z h0 sb "java/lang/StringBuilder") (P2 : Fld Z h0 sb "java/lang/AbstractStringBuilder" "coder" "B" (.int (0 : Int32))) (P3 : Exa Z h0 so "java/lang/String") (P4 : Fld Z h0 so "java/lang/String" "coder" "B" (.int (0 : Int32))) (OLD : Old Z n0 h0) (P5 : Sta Z Z.heap "java/lang/String" "COMPACT_STRINGS" "Z" (.int zc)) (hzc : ¬ (zc = (0 : Int32))) :
    MetFree l (⟨"java/lang/AbstractStringBuilder", "inflateIfNeededFor", "(Ljava/lang/String;)V"⟩ : MethodName) (head1 (Jvm.Cond.code (⟨"java/lang/AbstractStringBuilder", "inflateIfNeededFor", "(Ljava/lang/String;)V"⟩ : MethodName) jdk_68_method_71_code 2 none :: ws) ({ frames := 1, cells := 0, slots := 0, locals := 13 } : Room)) (fun a U => a = #[(.ref sb), (.ref so)] ∧ Z.Warmed39 U.vm ∧ U.heap = h0) (fun _ _ _ _ _ => True) (fun _ U o U' => ∃ v L, o = .returned v ∧ Q_rmInf Z sb so zc h0 n0 v U'.heap L ∧ FrameEnd U o U' L ({ frames := 1, cells := 0, slots := 0, locals := 13 } : Room).cells ({ frames := 1, cells := 0, slots := 0, locals := 13 } : Room).slots) := by
  refine MetFree.of_bodySF (plainFor_of_name pn_java_lang_AbstractStringBuilder) hisR ?_
  intro p e s m args below meth c s₁ Bd hml0 hP hK
  obtain ⟨rfl, hZ, hh⟩ := hP
  have hx := Bd.exec
  have hby := Bd.bytes
  have hml : c.maxLocals = 2 := hml0
  have hown : s.vm.findClass "java/lang/AbstractStringBuilder" = some m.cls := findClass_of_methodNamed Bd.named
  have hnm := (name_of_methodNamed Bd.named Bd.method).1
  have X0 : Stand p l e ({ frames := 1, cells := 0, slots := 0, locals := 13 } : Room) s m #[(.ref sb), (.ref so)] below meth c s₁ [] 0 0 := Stand.of_body Bd
  have e0 : s₁.heap = h0 := by rw [← hh, Bd.state]; rfl
  have N0 := Fr.nil n0
  have pre0 : ∀ t, Steps p.tables e below (s₁.setTop (mkF m 0 #[.val (.ref sb), .val (.ref so)] [])) t → Steps p.tables e below (s₁.setTop (entryFrame m #[(.ref sb), (.ref so)] 2)) t := fun t k => castTop (ef_rmInf m sb so) k
  have w_76 := hw _ (List.mem_of_getElem? (i := 76) rfl)
  have oz := OLD.1
  have lt_sb : sb < h0.size := P1.lt
  have lt_so : so < h0.size := P3.lt
  refine own_go (B := s₁.setTop (mkF m 0 #[.val (.ref sb), .val (.ref so)] [])) pre0 ?_
  show ∃ t o, Steps p.tables e below (s₁.setTop (mkF m 0 #[.val (.ref sb), .val (.ref so)] [])) t ∧ _
  obtain ⟨T6, X6, e6, st6⟩ := getS2 X0 hx hZ hown (host := "") (Or.inl (hw _ (List.mem_of_getElem? (i := 52) rfl))) Via.refl e0 (Sta.ext OLD.2 P5) (g := (mkF m 0 #[.val (.ref sb), .val (.ref so)] [])) rfl (hb hby d21_0)
  refine own_go st6 ?_
  show ∃ t o, Steps p.tables e below (T6.setTop (mkF m 3 #[.val (.ref sb), .val (.ref so)] [(.int zc)])) t ∧ _
  refine own_go (fun _ => XS.ifNo X6.here hx rfl (hb hby d21_3) rfl ((if0 _ _).trans (feq hzc).1)) ?_
  refine own_go (fun _ => XS.aloadN X6.here hx rfl (hb hby d21_6) rfl rfl) ?_
  obtain ⟨T7, X7, e7, st7⟩ := getF X6 hx hZ hown (host := "") (Or.inl (hw _ (List.mem_of_getElem? (i := 55) rfl))) Via.refl e6 P2 (g := (mkF m 7 #[.val (.ref sb), .val (.ref so)] [(.ref sb)])) rfl rfl (hb hby d21_7)
  refine own_go st7 ?_
  refine own_go (fun _ => XS.aloadN X7.here hx rfl (hb hby d21_10) rfl rfl) ?_
  show ∃ t o, Steps p.tables e below (T7.setTop (mkF m 11 #[.val (.ref sb), .val (.ref so)] [(.ref so), (.int (0 : Int32))])) t ∧ _
  obtain ⟨cq8, kq8, q8a, q8b, q8c⟩ := isOf hZ e7 P3
  obtain ⟨_, _, ⟨T8, L8, k8, n8⟩, -, X8, ⟨Lc8, hQ8, l8, y8, z8⟩, st8⟩ := X7.virtualBack hx (y := (⟨"java/lang/String", "coder", "()B"⟩ : MethodName)) (z := (⟨"java/lang/String", "coder", "()B"⟩ : MethodName)) hown (mvT hZ (hw _ (List.mem_of_getElem? (i := 121) rfl))) (mvT hZ (hw _ (List.mem_of_getElem? (i := 74) rfl))) (notFace_of_selects (args := #[]) (mvT hZ w_76)) (mvT hZ w_76) (mvT hZ (hw _ (List.mem_of_getElem? (i := 75) rfl))) (by decide) (backOf (W := 1) (rmCoder l Z a0 hw [] so zc h0 n0 Z0 P4 OLD P5 hzc) hZ (hw _ (List.mem_of_getElem? (i := 77) rfl)) (hw _ (List.mem_of_getElem? (i := 2) rfl)) (by decide) (by decide)) q8a q8c (g := (mkF m 11 #[.val (.ref sb), .val (.ref so)] [(.ref so), (.int (0 : Int32))])) rfl (by rw [hml]; rfl) (Steps.refl _) (argsL := []) (rest := [(.int (0 : Int32))]) (lenOf pd__28_29B rfl) rfl (by show 2 * 0 + _ ≤ _; exact Nat.le_of_eq rfl) (hb hby d21_11) (fun _ _ => ⟨rfl, e7, (by decide : 0 + 0 ≤ _), (by decide : 0 + 0 ≤ _)⟩)
  dsimp only [Pt.U, Pt.locs, Pt.cells, Pt.slots] at X8 l8 y8 z8 st8 hQ8
  rw [l8, y8, z8] at X8
  obtain ⟨rfl, Nq8, e8⟩ := hQ8
  have N8 := Fr.app N0 Nq8
  refine own_goT st8 ?_
  show ∃ t o, Steps p.tables e below (T8.setTop (mkF m 14 #[.val (.ref sb), .val (.ref so)] [(.int (0 : Int32)), (.int (0 : Int32))])) t ∧ _
  refine own_go (fun _ => XS.icmpYes X8.here hx rfl (pc0 := 14) (pc' := 21) rfl (hb hby d21_14) rfl (teq (by decide : (0 : Int32) = (0 : Int32))).1 (by decide) (by decide)) ?_
  show ∃ t o, Steps p.tables e below (T8.setTop (mkF m 21 #[.val (.ref sb), .val (.ref so)] [])) t ∧ _
  obtain ⟨fs, hr, hrun, hended, hW, hsame⟩ := X8.leave (v := none) (fun _ => rfl)
  refine ⟨_, _, ?_, hrun, hended, _, _, rfl, ?_, ⟨_, rfl⟩, hW, hsame.mono (by decide) (by decide)⟩
  · exact X8.returnOut hx Bd.returns (hb hby d21_21) hr
  · show Q_rmInf Z _ _ _ h0 n0 _ T8.heap _
    rw [e8]
    exact ⟨rfl, N8, rfl⟩
theorem ef_rmGb (m : MethodId) (x0 : Nat) (x1 : Nat) (x2 : Int32) (x3 : Int32) : entryFrame m #[(.ref x0), (.ref x1), (.int x2), (.int x3)] 4 = mkF m 0 #[.val (.ref x0), .val (.ref x1), .val (.int x2), .val (.int x3)] [] := by first | (simp [entryFrame, mkF, argsToLocals, Value.category]; done) | rfl
theorem d22_0 : decode jdk_42_method_147_code 0 = .ok (.aload_n 0, 1) := by decide +kernel
theorem d22_1 : decode jdk_42_method_147_code 1 = .ok (.invokevirtual 335, 3) := by decide +kernel
theorem d22_4 : decode jdk_42_method_147_code 4 = .ok (.iload_n 3, 1) := by decide +kernel
theorem d22_5 : decode jdk_42_method_147_code 5 = .ok (.if_icmp .ne 23, 3) := by decide +kernel
theorem d22_8 : decode jdk_42_method_147_code 8 = .ok (.aload_n 0, 1) := by decide +kernel
theorem d22_9 : decode jdk_42_method_147_code 9 = .ok (.getfield 9, 3) := by decide +kernel
theorem d22_12 : decode jdk_42_method_147_code 12 = .ok (.iconst 0, 1) := by decide +kernel
theorem d22_13 : decode jdk_42_method_147_code 13 = .ok (.aload_n 1, 1) := by decide +kernel
theorem d22_14 : decode jdk_42_method_147_code 14 = .ok (.iload_n 2, 1) := by decide +kernel
theorem d22_15 : decode jdk_42_method_147_code 15 = .ok (.iload_n 3, 1) := by decide +kernel
theorem d22_16 : decode jdk_42_method_147_code 16 = .ok (.ishl, 1) := by decide +kernel
theorem d22_17 : decode jdk_42_method_147_code 17 = .ok (.aload_n 0, 1) := by decide +kernel
theorem d22_18 : decode jdk_42_method_147_code 18 = .ok (.getfield 9, 3) := by decide +kernel
theorem d22_21 : decode jdk_42_method_147_code 21 = .ok (.arraylength, 1) := by decide +kernel
theorem d22_22 : decode jdk_42_method_147_code 22 = .ok (.invokestatic 212, 3) := by decide +kernel
theorem d22_25 : decode jdk_42_method_147_code 25 = .ok (.goto 18, 3) := by decide +kernel
theorem d22_43 : decode jdk_42_method_147_code 43 = .ok (.return_, 1) := by decide +kernel
def Q_rmGb (Z : State) (so : Nat) (tb : Nat) (kb : ClassId) (nn : Int32) (vs : List Value) (vb : Nat) (kv : ClassId) (cp : Int32) (us : List Value) (cn : Int32) (zc : Int32) (h0 : Heap) (n0 : Nat) (v : Option Value) (h : Heap) (L : List Loc) : Prop := v = none ∧ Fr n0 L ∧ Keep h0 h [vb] ∧ Arv Z h vb kv .byte cp (us ++ vs) (.int (0 : Int32))
set_option maxRecDepth 65536 in
set_option maxHeartbeats 40000000 in
theorem rmGb (l : Launch) (Z : State) (a0 : Array Value) (hw : ∀ d ∈ tables_1, d.before a0 Z = true) (ws : List Jvm.Cond) (so : Nat) (tb : Nat) (kb : ClassId) (nn : Int32) (vs : List Value) (vb : Nat) (kv : ClassId) (cp : Int32) (us : List Value) (cn : Int32) (zc : Int32) (h0 : Heap) (n0 : Nat) (Z0 : n0 ≤ h0.size) (P1 : Exa Z h0 so "java/lang/String") (P2 : Fld Z h0 so "java/lang/String" "value" "[B" (.ref tb)) (P3 : Fld Z h0 so "java/lang/String" "coder" "B" (.int (0 : Int32))) (P4 : Arv Z h0 tb kb .byte nn vs (.int (0 : Int32))) (P5 : Arv Z h0 vb kv .byte cp us (.int (0 : Int32))) (OLD : Old Z n0 h0) (P6 : Sta Z Z.heap "java/lang/String" "COMPACT_STRINGS" "Z" (.int zc)) (hzc : ¬ (zc = (0 : Int32))) (f1 : own_fit vs nn) (f2 : own_fit us cn) (hq : us.length + vs.length ≤ cp.toNatClampNeg) (gvb : n0 ≤ vb) :
    MetFree l (⟨"java/lang/String", "getBytes", "([BIB)V"⟩ : MethodName) (head1 (Jvm.Cond.code (⟨"java/lang/String", "getBytes", "([BIB)V"⟩ : MethodName) jdk_42_method_147_code 4 none :: ws) ({ frames := 1, cells := 0, slots := 0, locals := 18 } : Room)) (fun a U => a = #[(.ref so), (.ref vb), (.int cn), (.int (0 : Int32))] ∧ Z.Warmed39 U.vm ∧ U.heap = h0) (fun _ _ _ _ _ => True) (fun _ U o U' => ∃ v L, o = .returned v ∧ Q_rmGb Z so tb kb nn vs vb kv cp us cn zc h0 n0 v U'.heap L ∧ FrameEnd U o U' L ({ frames := 1, cells := 0, slots := 0, locals := 18 } : Room).cells ({ frames := 1, cells := 0, slots := 0, locals := 18 } : Room).slots) := by
  refine MetFree.of_bodySF (plainFor_of_name pn_java_lang_String) hisR ?_
  intro p e s m args below meth c s₁ Bd hml0 hP hK
  obtain ⟨rfl, hZ, hh⟩ := hP
  have hx := Bd.exec
  have hby := Bd.bytes
  have hml : c.maxLocals = 4 := hml0
  have hown : s.vm.findClass "java/lang/String" = some m.cls := findClass_of_methodNamed Bd.named
  have hnm := (name_of_methodNamed Bd.named Bd.method).1
  have X0 : Stand p l e ({ frames := 1, cells := 0, slots := 0, locals := 18 } : Room) s m #[(.ref so), (.ref vb), (.int cn), (.int (0 : Int32))] below meth c s₁ [] 0 0 := Stand.of_body Bd
  have e0 : s₁.heap = h0 := by rw [← hh, Bd.state]; rfl
  have N0 := Fr.nil n0
  have pre0 : ∀ t, Steps p.tables e below (s₁.setTop (mkF m 0 #[.val (.ref so), .val (.ref vb), .val (.int cn), .val (.int (0 : Int32))] [])) t → Steps p.tables e below (s₁.setTop (entryFrame m #[(.ref so), (.ref vb), (.int cn), (.int (0 : Int32))] 4)) t := fun t k => castTop (ef_rmGb m so vb cn (0 : Int32)) k
  have w_28 := hw _ (List.mem_of_getElem? (i := 28) rfl)
  have w_76 := hw _ (List.mem_of_getElem? (i := 76) rfl)
  have oz := OLD.1
  have lt_so : so < h0.size := P1.lt
  have lt_tb : tb < h0.size := P4.lt
  have lt_vb : vb < h0.size := P5.lt
  refine own_go (B := s₁.setTop (mkF m 0 #[.val (.ref so), .val (.ref vb), .val (.int cn), .val (.int (0 : Int32))] [])) pre0 ?_
  show ∃ t o, Steps p.tables e below (s₁.setTop (mkF m 0 #[.val (.ref so), .val (.ref vb), .val (.int cn), .val (.int (0 : Int32))] [])) t ∧ _
  refine own_go (fun _ => XS.aloadN X0.here hx rfl (hb hby d22_0) rfl rfl) ?_
  show ∃ t o, Steps p.tables e below (s₁.setTop (mkF m 1 #[.val (.ref so), .val (.ref vb), .val (.int cn), .val (.int (0 : Int32))] [(.ref so)])) t ∧ _
  obtain ⟨cq7, kq7, q7a, q7b, q7c⟩ := isOf hZ e0 P1
  obtain ⟨_, _, ⟨T7, L7, k7, n7⟩, -, X7, ⟨Lc7, hQ7, l7, y7, z7⟩, st7⟩ := X0.virtualBack hx (y := (⟨"java/lang/String", "coder", "()B"⟩ : MethodName)) (z := (⟨"java/lang/String", "coder", "()B"⟩ : MethodName)) hown (mvT hZ (hw _ (List.mem_of_getElem? (i := 73) rfl))) (mvT hZ (hw _ (List.mem_of_getElem? (i := 74) rfl))) (notFace_of_selects (args := #[]) (mvT hZ w_76)) (mvT hZ w_76) (mvT hZ (hw _ (List.mem_of_getElem? (i := 75) rfl))) (by decide) (backOf (W := 0) (rmCoder l Z a0 hw [] so zc h0 n0 Z0 P3 OLD P6 hzc) hZ (hw _ (List.mem_of_getElem? (i := 77) rfl)) (hw _ (List.mem_of_getElem? (i := 2) rfl)) (by decide) (by decide)) q7a q7c (g := (mkF m 1 #[.val (.ref so), .val (.ref vb), .val (.int cn), .val (.int (0 : Int32))] [(.ref so)])) rfl (by rw [hml]; rfl) (Steps.refl _) (argsL := []) (rest := []) (lenOf pd__28_29B rfl) rfl (by show 2 * 0 + _ ≤ _; exact Nat.le_of_eq rfl) (hb hby d22_1) (fun _ _ => ⟨rfl, e0, (by decide : 0 + 0 ≤ _), (by decide : 0 + 0 ≤ _)⟩)
  dsimp only [Pt.U, Pt.locs, Pt.cells, Pt.slots] at X7 l7 y7 z7 st7 hQ7
  rw [l7, y7, z7] at X7
  obtain ⟨rfl, Nq7, e7⟩ := hQ7
  have N7 := Fr.app N0 Nq7
  refine own_goT st7 ?_
  refine own_go (fun _ => XS.iloadN X7.here hx rfl (hb hby d22_4) rfl) ?_
  show ∃ t o, Steps p.tables e below (T7.setTop (mkF m 5 #[.val (.ref so), .val (.ref vb), .val (.int cn), .val (.int (0 : Int32))] [(.int (0 : Int32)), (.int (0 : Int32))])) t ∧ _
  refine own_go (fun _ => XS.icmpNo X7.here hx rfl (hb hby d22_5) rfl (teq (by decide : (0 : Int32) = (0 : Int32))).2) ?_
  refine own_go (fun _ => XS.aloadN X7.here hx rfl (hb hby d22_8) rfl rfl) ?_
  obtain ⟨T8, X8, e8, st8⟩ := getF X7 hx hZ hown (host := "") (Or.inl w_28) Via.refl e7 P2 (g := (mkF m 9 #[.val (.ref so), .val (.ref vb), .val (.int cn), .val (.int (0 : Int32))] [(.ref so)])) rfl rfl (hb hby d22_9)
  refine own_go st8 ?_
  refine own_go (fun _ => XS.iconst X8.here hx rfl (hb hby d22_12)) ?_
  refine own_go (fun _ => XS.aloadN X8.here hx rfl (hb hby d22_13) rfl rfl) ?_
  refine own_go (fun _ => XS.iloadN X8.here hx rfl (hb hby d22_14) rfl) ?_
  refine own_go (fun _ => XS.iloadN X8.here hx rfl (hb hby d22_15) rfl) ?_
  refine own_go (fun _ => XS.ishl X8.here hx rfl (hb hby d22_16) rfl) ?_
  show ∃ t o, Steps p.tables e below (T8.setTop (mkF m 17 #[.val (.ref so), .val (.ref vb), .val (.int cn), .val (.int (0 : Int32))] [(.int (cn <<< ((0 : Int32) &&& 31))), (.ref vb), (.int (0 : Int32)), (.ref tb)])) t ∧ _
  rw [own_shl0]
  show ∃ t o, Steps p.tables e below (T8.setTop (mkF m 17 #[.val (.ref so), .val (.ref vb), .val (.int cn), .val (.int (0 : Int32))] [(.int cn), (.ref vb), (.int (0 : Int32)), (.ref tb)])) t ∧ _
  refine own_go (fun _ => XS.aloadN X8.here hx rfl (hb hby d22_17) rfl rfl) ?_
  obtain ⟨T9, X9, e9, st9⟩ := getF X8 hx hZ hown (host := "") (Or.inl w_28) Via.refl e8 P2 (g := (mkF m 18 #[.val (.ref so), .val (.ref vb), .val (.int cn), .val (.int (0 : Int32))] [(.ref so), (.int cn), (.ref vb), (.int (0 : Int32)), (.ref tb)])) rfl rfl (hb hby d22_18)
  refine own_go st9 ?_
  obtain ⟨cl10, Ar10, q10, S10, N10, H10, G10⟩ := id P4
  have ln10 : cl10.slots.size.toInt32 = nn := len_of S10 N10
  have al10 := X9.arraylength hx (by rw [e9]; exact Ar10.1) (State.isArrayOf_alike hZ.alike Ar10.2.1) (g := (mkF m 21 #[.val (.ref so), .val (.ref vb), .val (.int cn), .val (.int (0 : Int32))] [(.ref tb), (.int cn), (.ref vb), (.int (0 : Int32)), (.ref tb)])) rfl rfl (hb hby d22_21)
  rw [ln10] at al10
  refine own_go al10 ?_
  show ∃ t o, Steps p.tables e below (T9.setTop (mkF m 22 #[.val (.ref so), .val (.ref vb), .val (.int cn), .val (.int (0 : Int32))] [(.int nn), (.int cn), (.ref vb), (.int (0 : Int32)), (.ref tb)])) t ∧ _
  obtain ⟨T11, h11, L11, X11, e11, N11, Kp11, V11, st11⟩ := own_cp X9 hx hZ hown (hw _ (List.mem_of_getElem? (i := 127) rfl)) (hw _ (List.mem_of_getElem? (i := 110) rfl)) (hw _ (List.mem_of_getElem? (i := 108) rfl)) (hw _ (List.mem_of_getElem? (i := 109) rfl)) e9 P4 P5 f1 f2 (Nat.le_of_eq (own_fit.cl f1).symm) hq N7 gvb (g := (mkF m 22 #[.val (.ref so), .val (.ref vb), .val (.int cn), .val (.int (0 : Int32))] [(.int nn), (.int cn), (.ref vb), (.int (0 : Int32)), (.ref tb)])) rfl (by rw [hml]; rfl) rfl (hb hby d22_22) (by decide) (W := 0) (by show 2 * 0 + _ ≤ _; exact Nat.le_of_eq rfl) (by decide +kernel)
  refine own_go st11 ?_
  have le_11 : h0.size ≤ h11.size := Kp11.1
  have K11 : Keep h0 h11 [vb] := Keep.trans (Keep.refl h0 [vb]) Kp11 (allS (Or.inl (List.mem_of_getElem? (i := 0) rfl)) all0)
  refine own_go (fun _ => XS.goto X11.here hx rfl (pc0 := 25) (pc' := 43) rfl (hb hby d22_25) (by decide) (by decide)) ?_
  show ∃ t o, Steps p.tables e below (T11.setTop (mkF m 43 #[.val (.ref so), .val (.ref vb), .val (.int cn), .val (.int (0 : Int32))] [])) t ∧ _
  obtain ⟨fs, hr, hrun, hended, hW, hsame⟩ := X11.leave (v := none) (fun _ => rfl)
  refine ⟨_, _, ?_, hrun, hended, _, _, rfl, ?_, ⟨_, rfl⟩, hW, hsame.mono (by decide) (by decide)⟩
  · exact X11.returnOut hx Bd.returns (hb hby d22_43) hr
  · show Q_rmGb Z _ _ _ _ _ _ _ _ _ _ _ h0 n0 _ T11.heap _
    rw [e11]
    exact ⟨rfl, N11, K11, V11⟩
theorem ef_rmPut (m : MethodId) (x0 : Nat) (x1 : Int32) (x2 : Nat) : entryFrame m #[(.ref x0), (.int x1), (.ref x2)] 3 = mkF m 0 #[.val (.ref x0), .val (.int x1), .val (.ref x2)] [] := by first | (simp [entryFrame, mkF, argsToLocals, Value.category]; done) | rfl
theorem d20_0 : decode jdk_68_method_73_code 0 = .ok (.aload_n 0, 1) := by decide +kernel
theorem d20_1 : decode jdk_68_method_73_code 1 = .ok (.aload_n 2, 1) := by decide +kernel
theorem d20_2 : decode jdk_68_method_73_code 2 = .ok (.invokevirtual 397, 3) := by decide +kernel
theorem pd__28Ljava_2flang_2fString_3b_29V : parseMethodDescriptor "(Ljava/lang/String;)V" = some ⟨[(.object "java/lang/String")], none⟩ := by decide +kernel
theorem d20_5 : decode jdk_68_method_73_code 5 = .ok (.aload_n 2, 1) := by decide +kernel
theorem d20_6 : decode jdk_68_method_73_code 6 = .ok (.aload_n 0, 1) := by decide +kernel
theorem d20_7 : decode jdk_68_method_73_code 7 = .ok (.getfield 15, 3) := by decide +kernel
theorem d20_10 : decode jdk_68_method_73_code 10 = .ok (.iload_n 1, 1) := by decide +kernel
theorem d20_11 : decode jdk_68_method_73_code 11 = .ok (.aload_n 0, 1) := by decide +kernel
theorem d20_12 : decode jdk_68_method_73_code 12 = .ok (.getfield 22, 3) := by decide +kernel
theorem d20_15 : decode jdk_68_method_73_code 15 = .ok (.invokevirtual 399, 3) := by decide +kernel
theorem pd__28_5bBIB_29V : parseMethodDescriptor "([BIB)V" = some ⟨[(.array .byte), .int, .byte], none⟩ := by decide +kernel
theorem d20_18 : decode jdk_68_method_73_code 18 = .ok (.return_, 1) := by decide +kernel
def Q_rmPut (Z : State) (so : Nat) (tb : Nat) (kb : ClassId) (nn : Int32) (vs : List Value) (sb : Nat) (vb : Nat) (kv : ClassId) (cp : Int32) (us : List Value) (cn : Int32) (zc : Int32) (h0 : Heap) (n0 : Nat) (v : Option Value) (h : Heap) (L : List Loc) : Prop := v = none ∧ Fr n0 L ∧ Keep h0 h [vb] ∧ Arv Z h vb kv .byte cp (us ++ vs) (.int (0 : Int32))
set_option maxRecDepth 65536 in
set_option maxHeartbeats 40000000 in
theorem rmPut (l : Launch) (Z : State) (a0 : Array Value) (hw : ∀ d ∈ tables_1, d.before a0 Z = true) (ws : List Jvm.Cond) (so : Nat) (tb : Nat) (kb : ClassId) (nn : Int32) (vs : List Value) (sb : Nat) (vb : Nat) (kv : ClassId) (cp : Int32) (us : List Value) (cn : Int32) (zc : Int32) (h0 : Heap) (n0 : Nat) (Z0 : n0 ≤ h0.size) (P1 : Exa Z h0 so "java/lang/String") (P2 : Fld Z h0 so "java/lang/String" "value" "[B" (.ref tb)) (P3 : Fld Z h0 so "java/lang/String" "coder" "B" (.int (0 : Int32))) (P4 : Arv Z h0 tb kb .byte nn vs (.int (0 : Int32))) (P5 : Exa Z h0 sb "java/lang/StringBuilder") (P6 : Fld Z h0 sb "java/lang/AbstractStringBuilder" "value" "[B" (.ref vb)) (P7 : Fld Z h0 sb "java/lang/AbstractStringBuilder" "coder" "B" (.int (0 : Int32))) (P8 : Exa Z h0 vb "[B") (P9 : Arv Z h0 vb kv .byte cp us (.int (0 : Int32))) (P10 : Fld Z h0 sb "java/lang/AbstractStringBuilder" "maybeLatin1" "Z" (.int (0 : Int32))) (OLD : Old Z n0 h0) (P11 : Sta Z Z.heap "java/lang/String" "COMPACT_STRINGS" "Z" (.int zc)) (hzc : ¬ (zc = (0 : Int32))) (f1 : own_fit vs nn) (f2 : own_fit us cn) (hq : us.length + vs.length ≤ cp.toNatClampNeg) (gvb : n0 ≤ vb) :
    MetFree l (⟨"java/lang/AbstractStringBuilder", "putStringAt", "(ILjava/lang/String;)V"⟩ : MethodName) (head1 (Jvm.Cond.code (⟨"java/lang/AbstractStringBuilder", "putStringAt", "(ILjava/lang/String;)V"⟩ : MethodName) jdk_68_method_73_code 3 none :: ws) ({ frames := 2, cells := 0, slots := 0, locals := 33 } : Room)) (fun a U => a = #[(.ref sb), (.int cn), (.ref so)] ∧ Z.Warmed39 U.vm ∧ U.heap = h0) (fun _ _ _ _ _ => True) (fun _ U o U' => ∃ v L, o = .returned v ∧ Q_rmPut Z so tb kb nn vs sb vb kv cp us cn zc h0 n0 v U'.heap L ∧ FrameEnd U o U' L ({ frames := 2, cells := 0, slots := 0, locals := 33 } : Room).cells ({ frames := 2, cells := 0, slots := 0, locals := 33 } : Room).slots) := by
  refine MetFree.of_bodySF (plainFor_of_name pn_java_lang_AbstractStringBuilder) hisR ?_
  intro p e s m args below meth c s₁ Bd hml0 hP hK
  obtain ⟨rfl, hZ, hh⟩ := hP
  have hx := Bd.exec
  have hby := Bd.bytes
  have hml : c.maxLocals = 3 := hml0
  have hown : s.vm.findClass "java/lang/AbstractStringBuilder" = some m.cls := findClass_of_methodNamed Bd.named
  have hnm := (name_of_methodNamed Bd.named Bd.method).1
  have X0 : Stand p l e ({ frames := 2, cells := 0, slots := 0, locals := 33 } : Room) s m #[(.ref sb), (.int cn), (.ref so)] below meth c s₁ [] 0 0 := Stand.of_body Bd
  have e0 : s₁.heap = h0 := by rw [← hh, Bd.state]; rfl
  have N0 := Fr.nil n0
  have pre0 : ∀ t, Steps p.tables e below (s₁.setTop (mkF m 0 #[.val (.ref sb), .val (.int cn), .val (.ref so)] [])) t → Steps p.tables e below (s₁.setTop (entryFrame m #[(.ref sb), (.int cn), (.ref so)] 3)) t := fun t k => castTop (ef_rmPut m sb cn so) k
  have w_117 := hw _ (List.mem_of_getElem? (i := 117) rfl)
  have w_118 := hw _ (List.mem_of_getElem? (i := 118) rfl)
  have w_120 := hw _ (List.mem_of_getElem? (i := 120) rfl)
  have w_125 := hw _ (List.mem_of_getElem? (i := 125) rfl)
  have oz := OLD.1
  have lt_sb : sb < h0.size := P5.lt
  have lt_so : so < h0.size := P1.lt
  have lt_tb : tb < h0.size := P4.lt
  have lt_vb : vb < h0.size := P8.lt
  refine own_go (B := s₁.setTop (mkF m 0 #[.val (.ref sb), .val (.int cn), .val (.ref so)] [])) pre0 ?_
  show ∃ t o, Steps p.tables e below (s₁.setTop (mkF m 0 #[.val (.ref sb), .val (.int cn), .val (.ref so)] [])) t ∧ _
  refine own_go (fun _ => XS.aloadN X0.here hx rfl (hb hby d20_0) rfl rfl) ?_
  refine own_go (fun _ => XS.aloadN X0.here hx rfl (hb hby d20_1) rfl rfl) ?_
  show ∃ t o, Steps p.tables e below (s₁.setTop (mkF m 2 #[.val (.ref sb), .val (.int cn), .val (.ref so)] [(.ref so), (.ref sb)])) t ∧ _
  obtain ⟨cq12, q12, q12'⟩ := P5.cell
  obtain ⟨_, _, ⟨T12, L12, k12, n12⟩, -, X12, ⟨Lc12, hQ12, l12, y12, z12⟩, st12⟩ := X0.privateBack hx (y := (⟨"java/lang/AbstractStringBuilder", "inflateIfNeededFor", "(Ljava/lang/String;)V"⟩ : MethodName)) hown (mvT hZ (hw _ (List.mem_of_getElem? (i := 116) rfl))) (mvT hZ w_117) (mvT hZ (own_selp (y := (⟨"java/lang/AbstractStringBuilder", "inflateIfNeededFor", "(Ljava/lang/String;)V"⟩ : MethodName)) (hw _ (List.mem_of_getElem? (i := 83) rfl)) rfl w_118 w_117 (by decide))) (Cond.privateMethod_at (mvP hZ w_118 (args := #[]))) (mvT hZ w_120) (by decide) (backOf (W := 0) (rmInf l Z a0 hw [] sb so zc h0 n0 Z0 P5 P7 P1 P3 OLD P11 hzc) hZ w_120 (hw _ (List.mem_of_getElem? (i := 49) rfl)) (by decide) (by decide)) (g := (mkF m 2 #[.val (.ref sb), .val (.int cn), .val (.ref so)] [(.ref so), (.ref sb)])) rfl (by rw [hml]; rfl) (Steps.refl _) (a := sb) (by rw [e0]; exact q12) q12' (argsL := [(.ref so)]) (rest := []) (lenOf pd__28Ljava_2flang_2fString_3b_29V rfl) rfl (by show 2 * 0 + _ ≤ _; exact Nat.le_of_eq rfl) (hb hby d20_2) (fun _ _ => ⟨rfl, e0, (by decide : 0 + 0 ≤ _), (by decide : 0 + 0 ≤ _)⟩)
  dsimp only [Pt.U, Pt.locs, Pt.cells, Pt.slots] at X12 l12 y12 z12 st12 hQ12
  rw [l12, y12, z12] at X12
  obtain ⟨rfl, Nq12, e12⟩ := hQ12
  have N12 := Fr.app N0 Nq12
  refine own_goT st12 ?_
  refine own_go (fun _ => XS.aloadN X12.here hx rfl (hb hby d20_5) rfl rfl) ?_
  refine own_go (fun _ => XS.aloadN X12.here hx rfl (hb hby d20_6) rfl rfl) ?_
  obtain ⟨T13, X13, e13, st13⟩ := getF X12 hx hZ hown (host := "") (Or.inl (hw _ (List.mem_of_getElem? (i := 53) rfl))) Via.refl e12 P6 (g := (mkF m 7 #[.val (.ref sb), .val (.int cn), .val (.ref so)] [(.ref sb), (.ref so)])) rfl rfl (hb hby d20_7)
  refine own_go st13 ?_
  refine own_go (fun _ => XS.iloadN X13.here hx rfl (hb hby d20_10) rfl) ?_
  refine own_go (fun _ => XS.aloadN X13.here hx rfl (hb hby d20_11) rfl rfl) ?_
  obtain ⟨T14, X14, e14, st14⟩ := getF X13 hx hZ hown (host := "") (Or.inl (hw _ (List.mem_of_getElem? (i := 55) rfl))) Via.refl e13 P7 (g := (mkF m 12 #[.val (.ref sb), .val (.int cn), .val (.ref so)] [(.ref sb), (.int cn), (.ref vb), (.ref so)])) rfl rfl (hb hby d20_12)
  refine own_go st14 ?_
  show ∃ t o, Steps p.tables e below (T14.setTop (mkF m 15 #[.val (.ref sb), .val (.int cn), .val (.ref so)] [(.int (0 : Int32)), (.int cn), (.ref vb), (.ref so)])) t ∧ _
  obtain ⟨cq15, kq15, q15a, q15b, q15c⟩ := isOf hZ e14 P1
  obtain ⟨_, _, ⟨T15, L15, k15, n15⟩, -, X15, ⟨Lc15, hQ15, l15, y15, z15⟩, st15⟩ := X14.virtualBack hx (y := (⟨"java/lang/String", "getBytes", "([BIB)V"⟩ : MethodName)) (z := (⟨"java/lang/String", "getBytes", "([BIB)V"⟩ : MethodName)) hown (mvT hZ (hw _ (List.mem_of_getElem? (i := 122) rfl))) (mvT hZ (hw _ (List.mem_of_getElem? (i := 123) rfl))) (notFace_of_selects (args := #[]) (mvT hZ w_125)) (mvT hZ w_125) (mvT hZ (hw _ (List.mem_of_getElem? (i := 124) rfl))) (by decide) (backOf (W := 0) (rmGb l Z a0 hw [] so tb kb nn vs vb kv cp us cn zc h0 n0 Z0 P1 P2 P3 P4 P9 OLD P11 hzc f1 f2 hq gvb) hZ (hw _ (List.mem_of_getElem? (i := 126) rfl)) (hw _ (List.mem_of_getElem? (i := 2) rfl)) (by decide) (by decide)) q15a q15c (g := (mkF m 15 #[.val (.ref sb), .val (.int cn), .val (.ref so)] [(.int (0 : Int32)), (.int cn), (.ref vb), (.ref so)])) rfl (by rw [hml]; rfl) (Steps.refl _) (argsL := [(.ref vb), (.int cn), (.int (0 : Int32))]) (rest := []) (lenOf pd__28_5bBIB_29V rfl) rfl (by show 2 * 0 + _ ≤ _; exact Nat.le_of_eq rfl) (hb hby d20_15) (fun _ _ => ⟨rfl, e14, (by decide : 0 + 0 ≤ _), (by decide : 0 + 0 ≤ _)⟩)
  dsimp only [Pt.U, Pt.locs, Pt.cells, Pt.slots] at X15 l15 y15 z15 st15 hQ15
  rw [l15, y15, z15] at X15
  obtain ⟨rfl, Nq15, Kp15, G15_0⟩ := hQ15
  have N15 := Fr.app N12 Nq15
  refine own_goT st15 ?_
  have le_15 : h0.size ≤ T15.heap.size := Kp15.1
  have K15 : Keep h0 T15.heap [vb] := Keep.trans (Keep.refl h0 [vb]) Kp15 (allS (Or.inl (List.mem_of_getElem? (i := 0) rfl)) all0)
  show ∃ t o, Steps p.tables e below (T15.setTop (mkF m 18 #[.val (.ref sb), .val (.int cn), .val (.ref so)] [])) t ∧ _
  obtain ⟨fs, hr, hrun, hended, hW, hsame⟩ := X15.leave (v := none) (fun _ => rfl)
  refine ⟨_, _, ?_, hrun, hended, _, _, rfl, ?_, ⟨_, rfl⟩, hW, hsame.mono (by decide) (by decide)⟩
  · exact X15.returnOut hx Bd.returns (hb hby d20_18) hr
  · show Q_rmPut Z _ _ _ _ _ _ _ _ _ _ _ _ h0 n0 _ T15.heap _
    exact ⟨rfl, N15, K15, G15_0⟩
theorem ef_rmEns0 (m : MethodId) (x0 : Nat) (x1 : Int32) : entryFrame m #[(.ref x0), (.int x1)] 3 = mkF m 0 #[.val (.ref x0), .val (.int x1), .unset] [] := by first | (simp [entryFrame, mkF, argsToLocals, Value.category]; done) | rfl
def Q_rmEns0 (Z : State) (sb : Nat) (vb : Nat) (kv : ClassId) (cp : Int32) (us : List Value) (mn : Int32) (h0 : Heap) (n0 : Nat) (v : Option Value) (h : Heap) (L : List Loc) : Prop := v = none ∧ Fr n0 L ∧ h = h0
set_option maxRecDepth 65536 in
set_option maxHeartbeats 40000000 in
theorem rmEns0 (l : Launch) (Z : State) (a0 : Array Value) (hw : ∀ d ∈ tables_1, d.before a0 Z = true) (ws : List Jvm.Cond) (sb : Nat) (vb : Nat) (kv : ClassId) (cp : Int32) (us : List Value) (mn : Int32) (h0 : Heap) (n0 : Nat) (Z0 : n0 ≤ h0.size) (P1 : Exa Z h0 sb "java/lang/StringBuilder") (P2 : Fld Z h0 sb "java/lang/AbstractStringBuilder" "value" "[B" (.ref vb)) (P3 : Fld Z h0 sb "java/lang/AbstractStringBuilder" "coder" "B" (.int (0 : Int32))) (P4 : Exa Z h0 vb "[B") (P5 : Arv Z h0 vb kv .byte cp us (.int (0 : Int32))) (P6 : Fld Z h0 sb "java/lang/AbstractStringBuilder" "maybeLatin1" "Z" (.int (0 : Int32))) (OLD : Old Z n0 h0) (hno : ¬ ((0 : Int32) < (mn - cp))) :
    MetFree l (⟨"java/lang/AbstractStringBuilder", "ensureCapacityInternal", "(I)V"⟩ : MethodName) (head1 (Jvm.Cond.code (⟨"java/lang/AbstractStringBuilder", "ensureCapacityInternal", "(I)V"⟩ : MethodName) jdk_68_method_9_code 3 none :: ws) ({ frames := 0, cells := 0, slots := 0, locals := 0 } : Room)) (fun a U => a = #[(.ref sb), (.int mn)] ∧ Z.Warmed39 U.vm ∧ U.heap = h0) (fun _ _ _ _ _ => True) (fun _ U o U' => ∃ v L, o = .returned v ∧ Q_rmEns0 Z sb vb kv cp us mn h0 n0 v U'.heap L ∧ FrameEnd U o U' L ({ frames := 0, cells := 0, slots := 0, locals := 0 } : Room).cells ({ frames := 0, cells := 0, slots := 0, locals := 0 } : Room).slots) := by
  refine MetFree.of_bodySF (plainFor_of_name pn_java_lang_AbstractStringBuilder) hisR ?_
  intro p e s m args below meth c s₁ Bd hml0 hP hK
  obtain ⟨rfl, hZ, hh⟩ := hP
  have hx := Bd.exec
  have hby := Bd.bytes
  have hml : c.maxLocals = 3 := hml0
  have hown : s.vm.findClass "java/lang/AbstractStringBuilder" = some m.cls := findClass_of_methodNamed Bd.named
  have hnm := (name_of_methodNamed Bd.named Bd.method).1
  have X0 : Stand p l e ({ frames := 0, cells := 0, slots := 0, locals := 0 } : Room) s m #[(.ref sb), (.int mn)] below meth c s₁ [] 0 0 := Stand.of_body Bd
  have e0 : s₁.heap = h0 := by rw [← hh, Bd.state]; rfl
  have N0 := Fr.nil n0
  have pre0 : ∀ t, Steps p.tables e below (s₁.setTop (mkF m 0 #[.val (.ref sb), .val (.int mn), .unset] [])) t → Steps p.tables e below (s₁.setTop (entryFrame m #[(.ref sb), (.int mn)] 3)) t := fun t k => castTop (ef_rmEns0 m sb mn) k
  have oz := OLD.1
  have lt_sb : sb < h0.size := P1.lt
  have lt_vb : vb < h0.size := P4.lt
  refine own_go (B := s₁.setTop (mkF m 0 #[.val (.ref sb), .val (.int mn), .unset] [])) pre0 ?_
  show ∃ t o, Steps p.tables e below (s₁.setTop (mkF m 0 #[.val (.ref sb), .val (.int mn), .unset] [])) t ∧ _
  refine own_go (fun _ => XS.aloadN X0.here hx rfl (hb hby d14_0) rfl rfl) ?_
  obtain ⟨T7, X7, e7, st7⟩ := getF X0 hx hZ hown (host := "") (Or.inl (hw _ (List.mem_of_getElem? (i := 53) rfl))) Via.refl e0 P2 (g := (mkF m 1 #[.val (.ref sb), .val (.int mn), .unset] [(.ref sb)])) rfl rfl (hb hby d14_1)
  refine own_go st7 ?_
  obtain ⟨cl8, Ar8, q8, S8, N8, H8, G8⟩ := id P5
  have ln8 : cl8.slots.size.toInt32 = cp := len_of S8 N8
  have al8 := X7.arraylength hx (by rw [e7]; exact Ar8.1) (State.isArrayOf_alike hZ.alike Ar8.2.1) (g := (mkF m 4 #[.val (.ref sb), .val (.int mn), .unset] [(.ref vb)])) rfl rfl (hb hby d14_4)
  rw [ln8] at al8
  refine own_go al8 ?_
  refine own_go (fun _ => XS.aloadN X7.here hx rfl (hb hby d14_5) rfl rfl) ?_
  obtain ⟨T9, X9, e9, st9⟩ := getF X7 hx hZ hown (host := "") (Or.inl (hw _ (List.mem_of_getElem? (i := 55) rfl))) Via.refl e7 P3 (g := (mkF m 6 #[.val (.ref sb), .val (.int mn), .unset] [(.ref sb), (.int cp)])) rfl rfl (hb hby d14_6)
  refine own_go st9 ?_
  refine own_go (fun _ => XS.ishr X9.here hx rfl (hb hby d14_9) rfl) ?_
  show ∃ t o, Steps p.tables e below (T9.setTop (mkF m 10 #[.val (.ref sb), .val (.int mn), .unset] [(.int (cp >>> ((0 : Int32) &&& 31)))])) t ∧ _
  rw [own_shr0]
  show ∃ t o, Steps p.tables e below (T9.setTop (mkF m 10 #[.val (.ref sb), .val (.int mn), .unset] [(.int cp)])) t ∧ _
  refine own_go (fun _ => XS.istoreN X9.here hx rfl (hb hby d14_10) rfl (l' := #[.val (.ref sb), .val (.int mn), .val (.int cp)]) rfl) ?_
  refine own_go (fun _ => XS.iloadN X9.here hx rfl (hb hby d14_11) rfl) ?_
  refine own_go (fun _ => XS.iloadN X9.here hx rfl (hb hby d14_12) rfl) ?_
  refine own_go (fun _ => XS.isub X9.here hx rfl (hb hby d14_13) rfl) ?_
  show ∃ t o, Steps p.tables e below (T9.setTop (mkF m 14 #[.val (.ref sb), .val (.int mn), .val (.int cp)] [(.int (mn - cp))])) t ∧ _
  refine own_go (fun _ => XS.ifYes X9.here hx rfl (pc0 := 14) (pc' := 38) rfl (hb hby d14_14) rfl ((if0 _ _).trans (flt hno).2.2.2) (by decide) (by decide)) ?_
  show ∃ t o, Steps p.tables e below (T9.setTop (mkF m 38 #[.val (.ref sb), .val (.int mn), .val (.int cp)] [])) t ∧ _
  obtain ⟨fs, hr, hrun, hended, hW, hsame⟩ := X9.leave (v := none) (fun _ => rfl)
  refine ⟨_, _, ?_, hrun, hended, _, _, rfl, ?_, ⟨_, rfl⟩, hW, hsame.mono (by decide) (by decide)⟩
  · exact X9.returnOut hx Bd.returns (hb hby d14_38) hr
  · show Q_rmEns0 Z _ _ _ _ _ _ h0 n0 _ T9.heap _
    rw [e9]
    exact ⟨rfl, N0, rfl⟩
theorem ef_rmABa (m : MethodId) (x0 : Nat) (x1 : Nat) : entryFrame m #[(.ref x0), (.ref x1)] 3 = mkF m 0 #[.val (.ref x0), .val (.ref x1), .unset] [] := by first | (simp [entryFrame, mkF, argsToLocals, Value.category]; done) | rfl
theorem d11_0 : decode jdk_68_method_22_code 0 = .ok (.aload_n 1, 1) := by decide +kernel
theorem d11_1 : decode jdk_68_method_22_code 1 = .ok (.ifnonnull 8, 3) := by decide +kernel
theorem d11_9 : decode jdk_68_method_22_code 9 = .ok (.aload_n 1, 1) := by decide +kernel
theorem d11_10 : decode jdk_68_method_22_code 10 = .ok (.invokevirtual 32, 3) := by decide +kernel
theorem pd__28_29I : parseMethodDescriptor "()I" = some ⟨[], some .int⟩ := by decide +kernel
theorem d11_13 : decode jdk_68_method_22_code 13 = .ok (.istore_n 2, 1) := by decide +kernel
theorem d11_14 : decode jdk_68_method_22_code 14 = .ok (.aload_n 0, 1) := by decide +kernel
theorem d11_15 : decode jdk_68_method_22_code 15 = .ok (.aload_n 0, 1) := by decide +kernel
theorem d11_16 : decode jdk_68_method_22_code 16 = .ok (.getfield 79, 3) := by decide +kernel
theorem d11_19 : decode jdk_68_method_22_code 19 = .ok (.iload_n 2, 1) := by decide +kernel
theorem d11_20 : decode jdk_68_method_22_code 20 = .ok (.iadd, 1) := by decide +kernel
theorem d11_21 : decode jdk_68_method_22_code 21 = .ok (.invokevirtual 100, 3) := by decide +kernel
theorem d11_24 : decode jdk_68_method_22_code 24 = .ok (.aload_n 0, 1) := by decide +kernel
theorem d11_25 : decode jdk_68_method_22_code 25 = .ok (.aload_n 0, 1) := by decide +kernel
theorem d11_26 : decode jdk_68_method_22_code 26 = .ok (.getfield 79, 3) := by decide +kernel
theorem d11_29 : decode jdk_68_method_22_code 29 = .ok (.aload_n 1, 1) := by decide +kernel
theorem d11_30 : decode jdk_68_method_22_code 30 = .ok (.invokevirtual 208, 3) := by decide +kernel
theorem pd__28ILjava_2flang_2fString_3b_29V : parseMethodDescriptor "(ILjava/lang/String;)V" = some ⟨[.int, (.object "java/lang/String")], none⟩ := by decide +kernel
theorem d11_33 : decode jdk_68_method_22_code 33 = .ok (.aload_n 0, 1) := by decide +kernel
theorem d11_34 : decode jdk_68_method_22_code 34 = .ok (.dup, 1) := by decide +kernel
theorem d11_35 : decode jdk_68_method_22_code 35 = .ok (.getfield 79, 3) := by decide +kernel
theorem d11_38 : decode jdk_68_method_22_code 38 = .ok (.iload_n 2, 1) := by decide +kernel
theorem d11_39 : decode jdk_68_method_22_code 39 = .ok (.iadd, 1) := by decide +kernel
theorem d11_40 : decode jdk_68_method_22_code 40 = .ok (.putfield 79, 3) := by decide +kernel
theorem d11_43 : decode jdk_68_method_22_code 43 = .ok (.aload_n 0, 1) := by decide +kernel
theorem d11_44 : decode jdk_68_method_22_code 44 = .ok (.areturn, 1) := by decide +kernel
def Q_rmABa (Z : State) (so : Nat) (tb : Nat) (kb : ClassId) (nn : Int32) (vs : List Value) (sb : Nat) (vb : Nat) (kv : ClassId) (cp : Int32) (us : List Value) (cn : Int32) (zc : Int32) (h0 : Heap) (n0 : Nat) (v : Option Value) (h : Heap) (L : List Loc) : Prop := ∃ (vb2 : Nat), ∃ (kv2 : ClassId), ∃ (cp2 : Int32), v = some (.ref sb) ∧ Fr n0 L ∧ Keep h0 h [sb, vb] ∧ Exa Z h sb "java/lang/StringBuilder" ∧ Fld Z h sb "java/lang/AbstractStringBuilder" "value" "[B" (.ref vb2) ∧ Fld Z h sb "java/lang/AbstractStringBuilder" "coder" "B" (.int (0 : Int32)) ∧ Fld Z h sb "java/lang/AbstractStringBuilder" "count" "I" (.int (cn + nn)) ∧ Exa Z h vb2 "[B" ∧ Arv Z h vb2 kv2 .byte cp2 (us ++ vs) (.int (0 : Int32)) ∧ Fld Z h sb "java/lang/AbstractStringBuilder" "maybeLatin1" "Z" (.int (0 : Int32)) ∧ (own_cap (us ++ vs) cp2) ∧ (vb2 = vb ∨ h0.size ≤ vb2) ∧ (sb ≠ vb2) ∧ (n0 ≤ vb2) ∧ (cp2 = cp ∨ cp2.toInt = 2 * cp.toInt + 2)
set_option maxRecDepth 65536 in
set_option maxHeartbeats 40000000 in
theorem rmABa (l : Launch) (Z : State) (a0 : Array Value) (hw : ∀ d ∈ tables_1, d.before a0 Z = true) (ws : List Jvm.Cond) (so : Nat) (tb : Nat) (kb : ClassId) (nn : Int32) (vs : List Value) (sb : Nat) (vb : Nat) (kv : ClassId) (cp : Int32) (us : List Value) (cn : Int32) (zc : Int32) (h0 : Heap) (n0 : Nat) (Z0 : n0 ≤ h0.size) (P1 : Exa Z h0 so "java/lang/String") (P2 : Fld Z h0 so "java/lang/String" "value" "[B" (.ref tb)) (P3 : Fld Z h0 so "java/lang/String" "coder" "B" (.int (0 : Int32))) (P4 : Arv Z h0 tb kb .byte nn vs (.int (0 : Int32))) (P5 : Exa Z h0 sb "java/lang/StringBuilder") (P6 : Fld Z h0 sb "java/lang/AbstractStringBuilder" "value" "[B" (.ref vb)) (P7 : Fld Z h0 sb "java/lang/AbstractStringBuilder" "coder" "B" (.int (0 : Int32))) (P8 : Fld Z h0 sb "java/lang/AbstractStringBuilder" "count" "I" (.int cn)) (P9 : Exa Z h0 vb "[B") (P10 : Arv Z h0 vb kv .byte cp us (.int (0 : Int32))) (P11 : Fld Z h0 sb "java/lang/AbstractStringBuilder" "maybeLatin1" "Z" (.int (0 : Int32))) (OLD : Old Z n0 h0) (P12 : Sta Z Z.heap "java/lang/String" "COMPACT_STRINGS" "Z" (.int zc)) (hzc : ¬ (zc = (0 : Int32))) (f1 : own_fit vs nn) (f2 : own_fit us cn) (hl : us.length + vs.length ≤ 125) (hl2 : ((us.length + vs.length : Nat) : Int) ≤ 2 * cp.toInt + 2) (hcp : own_cap us cp) (gsb : n0 ≤ sb) (gvb : n0 ≤ vb) (hne : sb ≠ vb) (hso : so ≠ sb) (htb : tb ≠ sb) :
    MetFree l (⟨"java/lang/AbstractStringBuilder", "append", "(Ljava/lang/String;)Ljava/lang/AbstractStringBuilder;"⟩ : MethodName) (head1 (Jvm.Cond.code (⟨"java/lang/AbstractStringBuilder", "append", "(Ljava/lang/String;)Ljava/lang/AbstractStringBuilder;"⟩ : MethodName) jdk_68_method_22_code 3 (some (.object "java/lang/AbstractStringBuilder")) :: ws) ({ frames := 4, cells := 1, slots := 142, locals := 62 } : Room)) (fun a U => a = #[(.ref sb), (.ref so)] ∧ Z.Warmed39 U.vm ∧ U.heap = h0) (fun _ _ _ _ _ => True) (fun _ U o U' => ∃ v L, o = .returned v ∧ Q_rmABa Z so tb kb nn vs sb vb kv cp us cn zc h0 n0 v U'.heap L ∧ FrameEnd U o U' L ({ frames := 4, cells := 1, slots := 142, locals := 62 } : Room).cells ({ frames := 4, cells := 1, slots := 142, locals := 62 } : Room).slots) := by
  refine MetFree.of_bodySF (plainFor_of_name pn_java_lang_AbstractStringBuilder) hisR ?_
  intro p e s m args below meth c s₁ Bd hml0 hP hK
  obtain ⟨rfl, hZ, hh⟩ := hP
  have hx := Bd.exec
  have hby := Bd.bytes
  have hml : c.maxLocals = 3 := hml0
  have hown : s.vm.findClass "java/lang/AbstractStringBuilder" = some m.cls := findClass_of_methodNamed Bd.named
  have hnm := (name_of_methodNamed Bd.named Bd.method).1
  have X0 : Stand p l e ({ frames := 4, cells := 1, slots := 142, locals := 62 } : Room) s m #[(.ref sb), (.ref so)] below meth c s₁ [] 0 0 := Stand.of_body Bd
  have e0 : s₁.heap = h0 := by rw [← hh, Bd.state]; rfl
  have N0 := Fr.nil n0
  have pre0 : ∀ t, Steps p.tables e below (s₁.setTop (mkF m 0 #[.val (.ref sb), .val (.ref so), .unset] [])) t → Steps p.tables e below (s₁.setTop (entryFrame m #[(.ref sb), (.ref so)] 3)) t := fun t k => castTop (ef_rmABa m sb so) k
  have w_112 := hw _ (List.mem_of_getElem? (i := 112) rfl)
  have w_113 := hw _ (List.mem_of_getElem? (i := 113) rfl)
  have w_115 := hw _ (List.mem_of_getElem? (i := 115) rfl)
  have w_49 := hw _ (List.mem_of_getElem? (i := 49) rfl)
  have w_71 := hw _ (List.mem_of_getElem? (i := 71) rfl)
  have w_78 := hw _ (List.mem_of_getElem? (i := 78) rfl)
  have w_79 := hw _ (List.mem_of_getElem? (i := 79) rfl)
  have w_81 := hw _ (List.mem_of_getElem? (i := 81) rfl)
  have w_82 := hw _ (List.mem_of_getElem? (i := 82) rfl)
  have w_83 := hw _ (List.mem_of_getElem? (i := 83) rfl)
  have w_84 := hw _ (List.mem_of_getElem? (i := 84) rfl)
  have oz := OLD.1
  have lt_sb : sb < h0.size := P5.lt
  have lt_so : so < h0.size := P1.lt
  have lt_tb : tb < h0.size := P4.lt
  have lt_vb : vb < h0.size := P9.lt
  refine own_go (B := s₁.setTop (mkF m 0 #[.val (.ref sb), .val (.ref so), .unset] [])) pre0 ?_
  show ∃ t o, Steps p.tables e below (s₁.setTop (mkF m 0 #[.val (.ref sb), .val (.ref so), .unset] [])) t ∧ _
  refine own_go (fun _ => XS.aloadN X0.here hx rfl (hb hby d11_0) rfl rfl) ?_
  show ∃ t o, Steps p.tables e below (s₁.setTop (mkF m 1 #[.val (.ref sb), .val (.ref so), .unset] [(.ref so)])) t ∧ _
  refine own_go (fun _ => XS.ifnonnullYes X0.here hx rfl (pc0 := 1) (pc' := 9) rfl (hb hby d11_1) rfl (by decide) (by decide)) ?_
  refine own_go (fun _ => XS.aloadN X0.here hx rfl (hb hby d11_9) rfl rfl) ?_
  show ∃ t o, Steps p.tables e below (s₁.setTop (mkF m 10 #[.val (.ref sb), .val (.ref so), .unset] [(.ref so)])) t ∧ _
  obtain ⟨cq13, kq13, q13a, q13b, q13c⟩ := isOf hZ e0 P1
  obtain ⟨_, _, ⟨T13, L13, k13, n13⟩, -, X13, ⟨Lc13, hQ13, l13, y13, z13⟩, st13⟩ := X0.virtualBack hx (y := (⟨"java/lang/String", "length", "()I"⟩ : MethodName)) (z := (⟨"java/lang/String", "length", "()I"⟩ : MethodName)) hown (mvT hZ (hw _ (List.mem_of_getElem? (i := 68) rfl))) (mvT hZ (hw _ (List.mem_of_getElem? (i := 69) rfl))) (notFace_of_selects (args := #[]) (mvT hZ w_71)) (mvT hZ w_71) (mvT hZ (hw _ (List.mem_of_getElem? (i := 70) rfl))) (by decide) (backOf (W := 0) (rmLenG l Z a0 hw [] so tb kb nn vs zc h0 n0 Z0 P1 P2 P3 P4 OLD P12 hzc) hZ (hw _ (List.mem_of_getElem? (i := 72) rfl)) (hw _ (List.mem_of_getElem? (i := 2) rfl)) (by decide) (by decide)) q13a q13c (g := (mkF m 10 #[.val (.ref sb), .val (.ref so), .unset] [(.ref so)])) rfl (by rw [hml]; rfl) (Steps.refl _) (argsL := []) (rest := []) (lenOf pd__28_29I rfl) rfl (by show 2 * 0 + _ ≤ _; exact Nat.le_of_eq rfl) (hb hby d11_10) (fun _ _ => ⟨rfl, e0, (by decide : 0 + 0 ≤ _), (by decide : 0 + 0 ≤ _)⟩)
  dsimp only [Pt.U, Pt.locs, Pt.cells, Pt.slots] at X13 l13 y13 z13 st13 hQ13
  rw [l13, y13, z13] at X13
  obtain ⟨rfl, Nq13, e13⟩ := hQ13
  have N13 := Fr.app N0 Nq13
  refine own_goT st13 ?_
  refine own_go (fun _ => XS.istoreN X13.here hx rfl (hb hby d11_13) rfl (l' := #[.val (.ref sb), .val (.ref so), .val (.int nn)]) rfl) ?_
  refine own_go (fun _ => XS.aloadN X13.here hx rfl (hb hby d11_14) rfl rfl) ?_
  refine own_go (fun _ => XS.aloadN X13.here hx rfl (hb hby d11_15) rfl rfl) ?_
  obtain ⟨T14, X14, e14, st14⟩ := getF X13 hx hZ hown (host := "") (Or.inl w_78) Via.refl e13 P8 (g := (mkF m 16 #[.val (.ref sb), .val (.ref so), .val (.int nn)] [(.ref sb), (.ref sb)])) rfl rfl (hb hby d11_16)
  refine own_go st14 ?_
  refine own_go (fun _ => XS.iloadN X14.here hx rfl (hb hby d11_19) rfl) ?_
  refine own_go (fun _ => XS.iadd X14.here hx rfl (hb hby d11_20) rfl) ?_
  show ∃ t o, Steps p.tables e below (T14.setTop (mkF m 21 #[.val (.ref sb), .val (.ref so), .val (.int nn)] [(.int (cn + nn)), (.ref sb)])) t ∧ _
  obtain ⟨cq15, q15, q15'⟩ := P5.cell
  obtain ⟨_, _, ⟨T15, L15, k15, n15⟩, -, X15, ⟨Lc15, hQ15, l15, y15, z15⟩, st15⟩ := X14.privateBack hx (y := (⟨"java/lang/AbstractStringBuilder", "ensureCapacityInternal", "(I)V"⟩ : MethodName)) hown (mvT hZ (hw _ (List.mem_of_getElem? (i := 80) rfl))) (mvT hZ w_81) (mvT hZ (own_selp (y := (⟨"java/lang/AbstractStringBuilder", "ensureCapacityInternal", "(I)V"⟩ : MethodName)) w_83 rfl w_82 w_81 (by decide))) (Cond.privateMethod_at (mvP hZ w_82 (args := #[]))) (mvT hZ w_84) (by decide) (backOf (W := 0) (rmEns l Z a0 hw [] sb vb kv cp us cn (cn + nn) h0 n0 Z0 P5 P6 P7 P8 P9 P10 P11 OLD (own_mn_of f2 f1 hl hl2 : own_mn (cn + nn) cp) hcp gsb gvb hne) hZ w_84 w_49 (by decide) (by decide)) (g := (mkF m 21 #[.val (.ref sb), .val (.ref so), .val (.int nn)] [(.int (cn + nn)), (.ref sb)])) rfl (by rw [hml]; rfl) (Steps.refl _) (a := sb) (by rw [e14]; exact q15) q15' (argsL := [(.int (cn + nn))]) (rest := []) (lenOf pd__28I_29V rfl) rfl (by show 2 * 0 + _ ≤ _; exact Nat.le_of_eq rfl) (hb hby d11_21) (fun _ _ => ⟨rfl, e14, (by decide : 0 + 1 ≤ _), (by decide : 0 + 142 ≤ _)⟩)
  dsimp only [Pt.U, Pt.locs, Pt.cells, Pt.slots] at X15 l15 y15 z15 st15 hQ15
  rw [l15, y15, z15] at X15
  obtain ⟨vb2_15, kv2_15, cp2_15, rfl, Nq15, Kp15, G15_0, G15_1, G15_2, G15_3, G15_4, G15_5, G15_6, H15_0, H15_1, H15_2, H15_3, H15_4, H15_5⟩ := hQ15
  have N15 := Fr.app N13 Nq15
  refine own_goT st15 ?_
  have le_15 : h0.size ≤ T15.heap.size := Kp15.1
  have K15 : Keep h0 T15.heap [sb, vb] := Keep.trans (Keep.refl h0 [sb, vb]) Kp15 (allS (Or.inl (List.mem_of_getElem? (i := 0) rfl)) all0)
  have lt_vb2_15 : vb2_15 < T15.heap.size := (G15_4).lt
  have kp16 := own_kp (sb := sb) H15_2
  refine own_go (fun _ => XS.aloadN X15.here hx rfl (hb hby d11_24) rfl rfl) ?_
  refine own_go (fun _ => XS.aloadN X15.here hx rfl (hb hby d11_25) rfl rfl) ?_
  obtain ⟨T17, X17, e17, st17⟩ := getF X15 hx hZ hown (host := "") (Or.inl w_78) Via.refl rfl G15_3 (g := (mkF m 26 #[.val (.ref sb), .val (.ref so), .val (.int nn)] [(.ref sb), (.ref sb)])) rfl rfl (hb hby d11_26)
  refine own_go st17 ?_
  refine own_go (fun _ => XS.aloadN X17.here hx rfl (hb hby d11_29) rfl rfl) ?_
  show ∃ t o, Steps p.tables e below (T17.setTop (mkF m 30 #[.val (.ref sb), .val (.ref so), .val (.int nn)] [(.ref so), (.int cn), (.ref sb)])) t ∧ _
  have F18 := (Exa.keep P1 Kp15)
  have F19 := (Fld.keep P2 Kp15 (ninS hso nin0))
  have F20 := (Fld.keep P3 Kp15 (ninS hso nin0))
  have F21 := (Arv.keep P4 Kp15 (ninS htb nin0))
  have F22 := (Old.keep OLD Kp15 (allS gsb all0))
  have zl23 : n0 ≤ T15.heap.size := by omega
  obtain ⟨cq24, q24, q24'⟩ := G15_0.cell
  obtain ⟨_, _, ⟨T24, L24, k24, n24⟩, -, X24, ⟨Lc24, hQ24, l24, y24, z24⟩, st24⟩ := X17.privateBack hx (y := (⟨"java/lang/AbstractStringBuilder", "putStringAt", "(ILjava/lang/String;)V"⟩ : MethodName)) hown (mvT hZ (hw _ (List.mem_of_getElem? (i := 111) rfl))) (mvT hZ w_112) (mvT hZ (own_selp (y := (⟨"java/lang/AbstractStringBuilder", "putStringAt", "(ILjava/lang/String;)V"⟩ : MethodName)) w_83 rfl w_113 w_112 (by decide))) (Cond.privateMethod_at (mvP hZ w_113 (args := #[]))) (mvT hZ w_115) (by decide) (backOf (W := 0) (rmPut l Z a0 hw [] so tb kb nn vs sb vb2_15 kv2_15 cp2_15 us cn zc T15.heap n0 zl23 F18 F19 F20 F21 G15_0 G15_1 G15_2 G15_4 G15_5 G15_6 F22 P12 hzc f1 f2 (own_room f2 f1 hl H15_1 : us.length + vs.length ≤ cp2_15.toNatClampNeg) H15_4) hZ w_115 w_49 (by decide) (by decide)) (g := (mkF m 30 #[.val (.ref sb), .val (.ref so), .val (.int nn)] [(.ref so), (.int cn), (.ref sb)])) rfl (by rw [hml]; rfl) (Steps.refl _) (a := sb) (by rw [e17]; exact q24) q24' (argsL := [(.int cn), (.ref so)]) (rest := []) (lenOf pd__28ILjava_2flang_2fString_3b_29V rfl) rfl (by show 2 * 0 + _ ≤ _; exact Nat.le_of_eq rfl) (hb hby d11_30) (fun _ _ => ⟨rfl, e17, (by decide : 1 + 0 ≤ _), (by decide : 142 + 0 ≤ _)⟩)
  dsimp only [Pt.U, Pt.locs, Pt.cells, Pt.slots] at X24 l24 y24 z24 st24 hQ24
  rw [l24, y24, z24] at X24
  obtain ⟨rfl, Nq24, Kp24, G24_0⟩ := hQ24
  have N24 := Fr.app N15 Nq24
  refine own_goT st24 ?_
  have le_24 : T15.heap.size ≤ T24.heap.size := Kp24.1
  have K24 : Keep h0 T24.heap [sb, vb] := Keep.trans K15 Kp24 (allS (kp16) all0)
  refine own_go (fun _ => XS.aloadN X24.here hx rfl (hb hby d11_33) rfl rfl) ?_
  refine own_go (fun _ => XS.dup X24.here hx rfl (hb hby d11_34) rfl rfl) ?_
  have F25 := (Fld.keep G15_3 Kp24 (ninS H15_3 nin0))
  obtain ⟨T26, X26, e26, st26⟩ := getF X24 hx hZ hown (host := "") (Or.inl w_78) Via.refl rfl F25 (g := (mkF m 35 #[.val (.ref sb), .val (.ref so), .val (.int nn)] [(.ref sb), (.ref sb)])) rfl rfl (hb hby d11_35)
  refine own_go st26 ?_
  refine own_go (fun _ => XS.iloadN X26.here hx rfl (hb hby d11_38) rfl) ?_
  refine own_go (fun _ => XS.iadd X26.here hx rfl (hb hby d11_39) rfl) ?_
  have F27 := (Exa.keep G15_0 Kp24)
  obtain ⟨T28, h28, X28, e28, W28, st28⟩ := putF X26 hx hZ hown (host := "") (Or.inl w_78) Via.refl e26 F25 F27 (Or.inl w_79) (hw _ (List.mem_of_getElem? (i := 40) rfl)) (ty := .int) (by decide) rfl rfl (g := (mkF m 40 #[.val (.ref sb), .val (.ref so), .val (.int nn)] [(.int (cn + nn)), (.ref sb)])) rfl rfl (hb hby d11_40)
  refine own_go st28 ?_
  have le_28 : T24.heap.size ≤ h28.size := Nat.le_of_eq W28.size.symm
  have K28 : Keep h0 h28 [sb, vb] := Keep.wr K24 W28 (Or.inl (List.mem_of_getElem? (i := 0) rfl))
  have N28 := Fr.snoc X28 N24 gsb
  have Fw28 := Fld.same W28 F25
  refine own_go (fun _ => XS.aloadN X28.here hx rfl (hb hby d11_43) rfl rfl) ?_
  show ∃ t o, Steps p.tables e below (T28.setTop (mkF m 44 #[.val (.ref sb), .val (.ref so), .val (.int nn)] [(.ref sb)])) t ∧ _
  have F29 := (Exa.wr W28 F27)
  have F30 := (Fld.other W28 (Fld.keep G15_1 Kp24 (ninS H15_3 nin0)) (Or.inr (slot_ne (a0 := a0) (Or.inl (hw _ (List.mem_of_getElem? (i := 54) rfl))) (Or.inl w_79) (by decide) (t := (.array .byte)) (t' := .int) (by decide) (by decide))))
  have F31 := (Fld.other W28 (Fld.keep G15_2 Kp24 (ninS H15_3 nin0)) (Or.inr (slot_ne (a0 := a0) (Or.inl (hw _ (List.mem_of_getElem? (i := 56) rfl))) (Or.inl w_79) (by decide) (t := .byte) (t' := .int) (by decide) (by decide))))
  have F32 := (Exa.wr W28 (Exa.keep G15_4 Kp24))
  have ne33 : vb2_15 ≠ sb := own_ne (by omega)
  have F34 := (Arv.other G24_0 W28 ne33)
  have F35 := (Fld.other W28 (Fld.keep G15_6 Kp24 (ninS H15_3 nin0)) (Or.inr (slot_ne (a0 := a0) (Or.inl (hw _ (List.mem_of_getElem? (i := 254) rfl))) (Or.inl w_79) (by decide) (t := .boolean) (t' := .int) (by decide) (by decide))))
  obtain ⟨fs, hr, hrun, hended, hW, hsame⟩ := X28.leave (v := some (.ref sb)) (fun h => by rw [Bd.returns] at h; cases h)
  refine ⟨_, _, ?_, hrun, hended, _, _, rfl, ?_, ⟨_, rfl⟩, hW, hsame.mono (by decide) (by decide)⟩
  · jvm_step X28.here [X28.here.top, hx, (hb hby d11_44), X28.method', Bd.returns, Value.isRef, FieldType.isReference]
    first | (intro acts; rw [hr _ acts rfl rfl rfl]) | rw [hr _ _ rfl rfl rfl]
    exact Steps.refl _
  · show Q_rmABa Z _ _ _ _ _ _ _ _ _ _ _ _ h0 n0 _ T28.heap _
    rw [e28]
    exact ⟨vb2_15, kv2_15, cp2_15, rfl, N28, K28, F29, F30, F31, Fw28, F32, F34, F35, (own_cap.app H15_0 (own_room f2 f1 hl H15_1)), H15_2, H15_3, H15_4, H15_5⟩
theorem ef_rmSBa (m : MethodId) (x0 : Nat) (x1 : Nat) : entryFrame m #[(.ref x0), (.ref x1)] 2 = mkF m 0 #[.val (.ref x0), .val (.ref x1)] [] := by first | (simp [entryFrame, mkF, argsToLocals, Value.category]; done) | rfl
theorem d10_0 : decode jdk_67_method_7_code 0 = .ok (.aload_n 0, 1) := by decide +kernel
theorem d10_1 : decode jdk_67_method_7_code 1 = .ok (.aload_n 1, 1) := by decide +kernel
theorem d10_2 : decode jdk_67_method_7_code 2 = .ok (.invokespecial 29, 3) := by decide +kernel
theorem pd_h496c0e57 : parseMethodDescriptor "(Ljava/lang/String;)Ljava/lang/AbstractStringBuilder;" = some ⟨[(.object "java/lang/String")], some (.object "java/lang/AbstractStringBuilder")⟩ := by decide +kernel
theorem d10_5 : decode jdk_67_method_7_code 5 = .ok (.pop, 1) := by decide +kernel
theorem d10_6 : decode jdk_67_method_7_code 6 = .ok (.aload_n 0, 1) := by decide +kernel
theorem d10_7 : decode jdk_67_method_7_code 7 = .ok (.areturn, 1) := by decide +kernel
def Q_rmSBa (Z : State) (so : Nat) (tb : Nat) (kb : ClassId) (nn : Int32) (vs : List Value) (sb : Nat) (vb : Nat) (kv : ClassId) (cp : Int32) (us : List Value) (cn : Int32) (zc : Int32) (h0 : Heap) (n0 : Nat) (v : Option Value) (h : Heap) (L : List Loc) : Prop := ∃ (vb2 : Nat), ∃ (kv2 : ClassId), ∃ (cp2 : Int32), v = some (.ref sb) ∧ Fr n0 L ∧ Keep h0 h [sb, vb] ∧ Exa Z h sb "java/lang/StringBuilder" ∧ Fld Z h sb "java/lang/AbstractStringBuilder" "value" "[B" (.ref vb2) ∧ Fld Z h sb "java/lang/AbstractStringBuilder" "coder" "B" (.int (0 : Int32)) ∧ Fld Z h sb "java/lang/AbstractStringBuilder" "count" "I" (.int (cn + nn)) ∧ Exa Z h vb2 "[B" ∧ Arv Z h vb2 kv2 .byte cp2 (us ++ vs) (.int (0 : Int32)) ∧ Fld Z h sb "java/lang/AbstractStringBuilder" "maybeLatin1" "Z" (.int (0 : Int32)) ∧ (own_cap (us ++ vs) cp2) ∧ (vb2 = vb ∨ h0.size ≤ vb2) ∧ (sb ≠ vb2) ∧ (n0 ≤ vb2) ∧ (cp2 = cp ∨ cp2.toInt = 2 * cp.toInt + 2)
set_option maxRecDepth 65536 in
set_option maxHeartbeats 40000000 in
theorem rmSBa (l : Launch) (Z : State) (a0 : Array Value) (hw : ∀ d ∈ tables_1, d.before a0 Z = true) (ws : List Jvm.Cond) (so : Nat) (tb : Nat) (kb : ClassId) (nn : Int32) (vs : List Value) (sb : Nat) (vb : Nat) (kv : ClassId) (cp : Int32) (us : List Value) (cn : Int32) (zc : Int32) (h0 : Heap) (n0 : Nat) (Z0 : n0 ≤ h0.size) (P1 : Exa Z h0 so "java/lang/String") (P2 : Fld Z h0 so "java/lang/String" "value" "[B" (.ref tb)) (P3 : Fld Z h0 so "java/lang/String" "coder" "B" (.int (0 : Int32))) (P4 : Arv Z h0 tb kb .byte nn vs (.int (0 : Int32))) (P5 : Exa Z h0 sb "java/lang/StringBuilder") (P6 : Fld Z h0 sb "java/lang/AbstractStringBuilder" "value" "[B" (.ref vb)) (P7 : Fld Z h0 sb "java/lang/AbstractStringBuilder" "coder" "B" (.int (0 : Int32))) (P8 : Fld Z h0 sb "java/lang/AbstractStringBuilder" "count" "I" (.int cn)) (P9 : Exa Z h0 vb "[B") (P10 : Arv Z h0 vb kv .byte cp us (.int (0 : Int32))) (P11 : Fld Z h0 sb "java/lang/AbstractStringBuilder" "maybeLatin1" "Z" (.int (0 : Int32))) (OLD : Old Z n0 h0) (P12 : Sta Z Z.heap "java/lang/String" "COMPACT_STRINGS" "Z" (.int zc)) (hzc : ¬ (zc = (0 : Int32))) (f1 : own_fit vs nn) (f2 : own_fit us cn) (hl : us.length + vs.length ≤ 125) (hl2 : ((us.length + vs.length : Nat) : Int) ≤ 2 * cp.toInt + 2) (hcp : own_cap us cp) (gsb : n0 ≤ sb) (gvb : n0 ≤ vb) (hne : sb ≠ vb) (hso : so ≠ sb) (htb : tb ≠ sb) :
    MetFree l (⟨"java/lang/StringBuilder", "append", "(Ljava/lang/String;)Ljava/lang/StringBuilder;"⟩ : MethodName) (head1 (Jvm.Cond.code (⟨"java/lang/StringBuilder", "append", "(Ljava/lang/String;)Ljava/lang/StringBuilder;"⟩ : MethodName) jdk_67_method_7_code 2 (some (.object "java/lang/StringBuilder")) :: ws) ({ frames := 5, cells := 1, slots := 142, locals := 76 } : Room)) (fun a U => a = #[(.ref sb), (.ref so)] ∧ Z.Warmed39 U.vm ∧ U.heap = h0) (fun _ _ _ _ _ => True) (fun _ U o U' => ∃ v L, o = .returned v ∧ Q_rmSBa Z so tb kb nn vs sb vb kv cp us cn zc h0 n0 v U'.heap L ∧ FrameEnd U o U' L ({ frames := 5, cells := 1, slots := 142, locals := 76 } : Room).cells ({ frames := 5, cells := 1, slots := 142, locals := 76 } : Room).slots) := by
  refine MetFree.of_bodySF (plainFor_of_name pn_java_lang_StringBuilder) hisR ?_
  intro p e s m args below meth c s₁ Bd hml0 hP hK
  obtain ⟨rfl, hZ, hh⟩ := hP
  have hx := Bd.exec
  have hby := Bd.bytes
  have hml : c.maxLocals = 2 := hml0
  have hown : s.vm.findClass "java/lang/StringBuilder" = some m.cls := findClass_of_methodNamed Bd.named
  have hnm := (name_of_methodNamed Bd.named Bd.method).1
  have X0 : Stand p l e ({ frames := 5, cells := 1, slots := 142, locals := 76 } : Room) s m #[(.ref sb), (.ref so)] below meth c s₁ [] 0 0 := Stand.of_body Bd
  have e0 : s₁.heap = h0 := by rw [← hh, Bd.state]; rfl
  have N0 := Fr.nil n0
  have pre0 : ∀ t, Steps p.tables e below (s₁.setTop (mkF m 0 #[.val (.ref sb), .val (.ref so)] [])) t → Steps p.tables e below (s₁.setTop (entryFrame m #[(.ref sb), (.ref so)] 2)) t := fun t k => castTop (ef_rmSBa m sb so) k
  have w_64 := hw _ (List.mem_of_getElem? (i := 64) rfl)
  have w_67 := hw _ (List.mem_of_getElem? (i := 67) rfl)
  have oz := OLD.1
  have lt_sb : sb < h0.size := P5.lt
  have lt_so : so < h0.size := P1.lt
  have lt_tb : tb < h0.size := P4.lt
  have lt_vb : vb < h0.size := P9.lt
  refine own_go (B := s₁.setTop (mkF m 0 #[.val (.ref sb), .val (.ref so)] [])) pre0 ?_
  show ∃ t o, Steps p.tables e below (s₁.setTop (mkF m 0 #[.val (.ref sb), .val (.ref so)] [])) t ∧ _
  refine own_go (fun _ => XS.aloadN X0.here hx rfl (hb hby d10_0) rfl rfl) ?_
  refine own_go (fun _ => XS.aloadN X0.here hx rfl (hb hby d10_1) rfl rfl) ?_
  show ∃ t o, Steps p.tables e below (s₁.setTop (mkF m 2 #[.val (.ref sb), .val (.ref so)] [(.ref so), (.ref sb)])) t ∧ _
  obtain ⟨_, _, ⟨T13, L13, k13, n13⟩, -, X13, ⟨Lc13, hQ13, l13, y13, z13⟩, st13⟩ := superBack X0 hx hZ (y := (⟨"java/lang/AbstractStringBuilder", "append", "(Ljava/lang/String;)Ljava/lang/AbstractStringBuilder;"⟩ : MethodName)) hown (hw _ (List.mem_of_getElem? (i := 63) rfl)) (own_same (y := (⟨"java/lang/AbstractStringBuilder", "append", "(Ljava/lang/String;)Ljava/lang/AbstractStringBuilder;"⟩ : MethodName)) (hw _ (List.mem_of_getElem? (i := 83) rfl)) rfl w_64 (by decide)) w_64 (hw _ (List.mem_of_getElem? (i := 65) rfl)) (by decide) (backOf (W := 0) (rmABa l Z a0 hw [] so tb kb nn vs sb vb kv cp us cn zc h0 n0 Z0 P1 P2 P3 P4 P5 P6 P7 P8 P9 P10 P11 OLD P12 hzc f1 f2 hl hl2 hcp gsb gvb hne hso htb) hZ w_67 (hw _ (List.mem_of_getElem? (i := 49) rfl)) (by decide) (by decide)) e0 (Ins.self P5) (g := (mkF m 2 #[.val (.ref sb), .val (.ref so)] [(.ref so), (.ref sb)])) rfl (by rw [hml]; rfl) w_67 (argsL := [(.ref so)]) (rest := []) (lenOf pd_h496c0e57 rfl) rfl (by show 2 * 0 + _ ≤ _; exact Nat.le_of_eq rfl) (hb hby d10_2) (fun _ _ => ⟨rfl, e0, (by decide : 0 + 1 ≤ _), (by decide : 0 + 142 ≤ _)⟩)
  dsimp only [Pt.U, Pt.locs, Pt.cells, Pt.slots] at X13 l13 y13 z13 st13 hQ13
  rw [l13, y13, z13] at X13
  obtain ⟨vb2_13, kv2_13, cp2_13, rfl, Nq13, Kp13, G13_0, G13_1, G13_2, G13_3, G13_4, G13_5, G13_6, H13_0, H13_1, H13_2, H13_3, H13_4⟩ := hQ13
  have N13 := Fr.app N0 Nq13
  refine own_goT st13 ?_
  have le_13 : h0.size ≤ T13.heap.size := Kp13.1
  have K13 : Keep h0 T13.heap [sb, vb] := Keep.trans (Keep.refl h0 [sb, vb]) Kp13 (allS (Or.inl (List.mem_of_getElem? (i := 0) rfl)) (allS (Or.inl (List.mem_of_getElem? (i := 1) rfl)) all0))
  have lt_vb2_13 : vb2_13 < T13.heap.size := (G13_4).lt
  refine own_go (fun _ => XS.pop X13.here hx rfl (hb hby d10_5) rfl rfl) ?_
  refine own_go (fun _ => XS.aloadN X13.here hx rfl (hb hby d10_6) rfl rfl) ?_
  show ∃ t o, Steps p.tables e below (T13.setTop (mkF m 7 #[.val (.ref sb), .val (.ref so)] [(.ref sb)])) t ∧ _
  obtain ⟨fs, hr, hrun, hended, hW, hsame⟩ := X13.leave (v := some (.ref sb)) (fun h => by rw [Bd.returns] at h; cases h)
  refine ⟨_, _, ?_, hrun, hended, _, _, rfl, ?_, ⟨_, rfl⟩, hW, hsame.mono (by decide) (by decide)⟩
  · jvm_step X13.here [X13.here.top, hx, (hb hby d10_7), X13.method', Bd.returns, Value.isRef, FieldType.isReference]
    first | (intro acts; rw [hr _ acts rfl rfl rfl]) | rw [hr _ _ rfl rfl rfl]
    exact Steps.refl _
  · show Q_rmSBa Z _ _ _ _ _ _ _ _ _ _ _ _ h0 n0 _ T13.heap _
    exact ⟨vb2_13, kv2_13, cp2_13, rfl, N13, K13, G13_0, G13_1, G13_2, G13_3, G13_4, G13_5, G13_6, H13_0, H13_1, H13_2, H13_3, H13_4⟩
theorem ef_rmCkl (m : MethodId) (x0 : Int32) (x1 : Int32) : entryFrame m #[(.int x0), (.int x1)] 2 = mkF m 0 #[.val (.int x0), .val (.int x1)] [] := by first | (simp [entryFrame, mkF, argsToLocals, Value.category]; done) | rfl
theorem d33_0 : decode jdk_65_method_131_code 0 = .ok (.iload_n 1, 1) := by decide +kernel
theorem d33_1 : decode jdk_65_method_131_code 1 = .ok (.iload_n 0, 1) := by decide +kernel
theorem d33_2 : decode jdk_65_method_131_code 2 = .ok (.if_icmp .ge 35, 3) := by decide +kernel
theorem d33_37 : decode jdk_65_method_131_code 37 = .ok (.return_, 1) := by decide +kernel
def Q_rmCkl (Z : State) (cn : Int32) (h0 : Heap) (n0 : Nat) (v : Option Value) (h : Heap) (L : List Loc) : Prop := v = none ∧ Fr n0 L ∧ h = h0
set_option maxRecDepth 65536 in
set_option maxHeartbeats 40000000 in
theorem rmCkl (l : Launch) (Z : State) (a0 : Array Value) (hw : ∀ d ∈ tables_1, d.before a0 Z = true) (ws : List Jvm.Cond) (cn : Int32) (h0 : Heap) (n0 : Nat) (Z0 : n0 ≤ h0.size) (OLD : Old Z n0 h0) (q0 : ¬ (cn < (0 : Int32))) :
    MetFree l (⟨"java/util/Arrays", "checkLength", "(II)V"⟩ : MethodName) (head1 (Jvm.Cond.code (⟨"java/util/Arrays", "checkLength", "(II)V"⟩ : MethodName) jdk_65_method_131_code 2 none :: ws) ({ frames := 0, cells := 0, slots := 0, locals := 0 } : Room)) (fun a U => a = #[(.int (0 : Int32)), (.int cn)] ∧ Z.Warmed39 U.vm ∧ U.heap = h0) (fun _ _ _ _ _ => True) (fun _ U o U' => ∃ v L, o = .returned v ∧ Q_rmCkl Z cn h0 n0 v U'.heap L ∧ FrameEnd U o U' L ({ frames := 0, cells := 0, slots := 0, locals := 0 } : Room).cells ({ frames := 0, cells := 0, slots := 0, locals := 0 } : Room).slots) := by
  refine MetFree.of_bodySF (plainFor_of_name pn_java_util_Arrays) hisR ?_
  intro p e s m args below meth c s₁ Bd hml0 hP hK
  obtain ⟨rfl, hZ, hh⟩ := hP
  have hx := Bd.exec
  have hby := Bd.bytes
  have hml : c.maxLocals = 2 := hml0
  have hown : s.vm.findClass "java/util/Arrays" = some m.cls := findClass_of_methodNamed Bd.named
  have hnm := (name_of_methodNamed Bd.named Bd.method).1
  have X0 : Stand p l e ({ frames := 0, cells := 0, slots := 0, locals := 0 } : Room) s m #[(.int (0 : Int32)), (.int cn)] below meth c s₁ [] 0 0 := Stand.of_body Bd
  have e0 : s₁.heap = h0 := by rw [← hh, Bd.state]; rfl
  have N0 := Fr.nil n0
  have pre0 : ∀ t, Steps p.tables e below (s₁.setTop (mkF m 0 #[.val (.int (0 : Int32)), .val (.int cn)] [])) t → Steps p.tables e below (s₁.setTop (entryFrame m #[(.int (0 : Int32)), (.int cn)] 2)) t := fun t k => castTop (ef_rmCkl m (0 : Int32) cn) k
  have oz := OLD.1
  refine own_go (B := s₁.setTop (mkF m 0 #[.val (.int (0 : Int32)), .val (.int cn)] [])) pre0 ?_
  show ∃ t o, Steps p.tables e below (s₁.setTop (mkF m 0 #[.val (.int (0 : Int32)), .val (.int cn)] [])) t ∧ _
  refine own_go (fun _ => XS.iloadN X0.here hx rfl (hb hby d33_0) rfl) ?_
  refine own_go (fun _ => XS.iloadN X0.here hx rfl (hb hby d33_1) rfl) ?_
  show ∃ t o, Steps p.tables e below (s₁.setTop (mkF m 2 #[.val (.int (0 : Int32)), .val (.int cn)] [(.int (0 : Int32)), (.int cn)])) t ∧ _
  refine own_go (fun _ => XS.icmpYes X0.here hx rfl (pc0 := 2) (pc' := 37) rfl (hb hby d33_2) rfl (flt q0).2.1 (by decide) (by decide)) ?_
  show ∃ t o, Steps p.tables e below (s₁.setTop (mkF m 37 #[.val (.int (0 : Int32)), .val (.int cn)] [])) t ∧ _
  obtain ⟨fs, hr, hrun, hended, hW, hsame⟩ := X0.leave (v := none) (fun _ => rfl)
  refine ⟨_, _, ?_, hrun, hended, _, _, rfl, ?_, ⟨_, rfl⟩, hW, hsame.mono (by decide) (by decide)⟩
  · exact X0.returnOut hx Bd.returns (hb hby d33_37) hr
  · show Q_rmCkl Z _ h0 n0 _ s₁.heap _
    rw [e0]
    exact ⟨rfl, N0, rfl⟩
theorem ef_rmCrb (m : MethodId) (x0 : Nat) (x1 : Int32) (x2 : Int32) : entryFrame m #[(.ref x0), (.int x1), (.int x2)] 5 = mkF m 0 #[.val (.ref x0), .val (.int x1), .val (.int x2), .unset, .unset] [] := by first | (simp [entryFrame, mkF, argsToLocals, Value.category]; done) | rfl
theorem d32_0 : decode jdk_65_method_133_code 0 = .ok (.iload_n 1, 1) := by decide +kernel
theorem d32_1 : decode jdk_65_method_133_code 1 = .ok (.iload_n 2, 1) := by decide +kernel
theorem d32_2 : decode jdk_65_method_133_code 2 = .ok (.invokestatic 343, 3) := by decide +kernel
theorem pd__28II_29V : parseMethodDescriptor "(II)V" = some ⟨[.int, .int], none⟩ := by decide +kernel
theorem d32_5 : decode jdk_65_method_133_code 5 = .ok (.iload_n 2, 1) := by decide +kernel
theorem d32_6 : decode jdk_65_method_133_code 6 = .ok (.iload_n 1, 1) := by decide +kernel
theorem d32_7 : decode jdk_65_method_133_code 7 = .ok (.isub, 1) := by decide +kernel
theorem d32_8 : decode jdk_65_method_133_code 8 = .ok (.istore_n 3, 1) := by decide +kernel
theorem d32_9 : decode jdk_65_method_133_code 9 = .ok (.iload_n 3, 1) := by decide +kernel
theorem d32_10 : decode jdk_65_method_133_code 10 = .ok (.newarray .byte, 2) := by decide +kernel
theorem d32_12 : decode jdk_65_method_133_code 12 = .ok (.astore 4, 2) := by decide +kernel
theorem d32_14 : decode jdk_65_method_133_code 14 = .ok (.aload_n 0, 1) := by decide +kernel
theorem d32_15 : decode jdk_65_method_133_code 15 = .ok (.iload_n 1, 1) := by decide +kernel
theorem d32_16 : decode jdk_65_method_133_code 16 = .ok (.aload 4, 2) := by decide +kernel
theorem d32_18 : decode jdk_65_method_133_code 18 = .ok (.iconst 0, 1) := by decide +kernel
theorem d32_19 : decode jdk_65_method_133_code 19 = .ok (.aload_n 0, 1) := by decide +kernel
theorem d32_20 : decode jdk_65_method_133_code 20 = .ok (.arraylength, 1) := by decide +kernel
theorem d32_21 : decode jdk_65_method_133_code 21 = .ok (.iload_n 1, 1) := by decide +kernel
theorem d32_22 : decode jdk_65_method_133_code 22 = .ok (.isub, 1) := by decide +kernel
theorem d32_23 : decode jdk_65_method_133_code 23 = .ok (.iload_n 3, 1) := by decide +kernel
theorem d32_24 : decode jdk_65_method_133_code 24 = .ok (.invokestatic 304, 3) := by decide +kernel
theorem d32_27 : decode jdk_65_method_133_code 27 = .ok (.invokestatic 150, 3) := by decide +kernel
theorem d32_30 : decode jdk_65_method_133_code 30 = .ok (.aload 4, 2) := by decide +kernel
theorem d32_32 : decode jdk_65_method_133_code 32 = .ok (.areturn, 1) := by decide +kernel
def Q_rmCrb (Z : State) (vb : Nat) (kv : ClassId) (cp : Int32) (us : List Value) (cn : Int32) (h0 : Heap) (n0 : Nat) (v : Option Value) (h : Heap) (L : List Loc) : Prop := ∃ (nb : Nat), ∃ (kn : ClassId), v = some (.ref nb) ∧ Fr n0 L ∧ Keep h0 h [] ∧ Arv Z h nb kn .byte cn us (.int (0 : Int32)) ∧ (h0.size ≤ nb)
set_option maxRecDepth 65536 in
set_option maxHeartbeats 40000000 in
theorem rmCrb (l : Launch) (Z : State) (a0 : Array Value) (hw : ∀ d ∈ tables_1, d.before a0 Z = true) (ws : List Jvm.Cond) (vb : Nat) (kv : ClassId) (cp : Int32) (us : List Value) (cn : Int32) (h0 : Heap) (n0 : Nat) (Z0 : n0 ≤ h0.size) (P1 : Arv Z h0 vb kv .byte cp us (.int (0 : Int32))) (OLD : Old Z n0 h0) (f2 : own_fit us cn) (hcp : own_cap us cp) (hlt : cn < cp) :
    MetFree l (⟨"java/util/Arrays", "copyOfRangeByte", "([BII)[B"⟩ : MethodName) (head1 (Jvm.Cond.code (⟨"java/util/Arrays", "copyOfRangeByte", "([BII)[B"⟩ : MethodName) jdk_65_method_133_code 5 (some (.array .byte)) :: ws) ({ frames := 1, cells := 1, slots := 142, locals := 18 } : Room)) (fun a U => a = #[(.ref vb), (.int (0 : Int32)), (.int cn)] ∧ Z.Warmed39 U.vm ∧ U.heap = h0) (fun _ _ _ _ _ => True) (fun _ U o U' => ∃ v L, o = .returned v ∧ Q_rmCrb Z vb kv cp us cn h0 n0 v U'.heap L ∧ FrameEnd U o U' L ({ frames := 1, cells := 1, slots := 142, locals := 18 } : Room).cells ({ frames := 1, cells := 1, slots := 142, locals := 18 } : Room).slots) := by
  refine MetFree.of_bodySF (plainFor_of_name pn_java_util_Arrays) hisR ?_
  intro p e s m args below meth c s₁ Bd hml0 hP hK
  obtain ⟨rfl, hZ, hh⟩ := hP
  have hx := Bd.exec
  have hby := Bd.bytes
  have hml : c.maxLocals = 5 := hml0
  have hown : s.vm.findClass "java/util/Arrays" = some m.cls := findClass_of_methodNamed Bd.named
  have hnm := (name_of_methodNamed Bd.named Bd.method).1
  have X0 : Stand p l e ({ frames := 1, cells := 1, slots := 142, locals := 18 } : Room) s m #[(.ref vb), (.int (0 : Int32)), (.int cn)] below meth c s₁ [] 0 0 := Stand.of_body Bd
  have e0 : s₁.heap = h0 := by rw [← hh, Bd.state]; rfl
  have N0 := Fr.nil n0
  have pre0 : ∀ t, Steps p.tables e below (s₁.setTop (mkF m 0 #[.val (.ref vb), .val (.int (0 : Int32)), .val (.int cn), .unset, .unset] [])) t → Steps p.tables e below (s₁.setTop (entryFrame m #[(.ref vb), (.int (0 : Int32)), (.int cn)] 5)) t := fun t k => castTop (ef_rmCrb m vb (0 : Int32) cn) k
  have w_102 := hw _ (List.mem_of_getElem? (i := 102) rfl)
  have w_106 := hw _ (List.mem_of_getElem? (i := 106) rfl)
  have w_184 := hw _ (List.mem_of_getElem? (i := 184) rfl)
  have w_96 := hw _ (List.mem_of_getElem? (i := 96) rfl)
  have oz := OLD.1
  have lt_vb : vb < h0.size := P1.lt
  refine own_go (B := s₁.setTop (mkF m 0 #[.val (.ref vb), .val (.int (0 : Int32)), .val (.int cn), .unset, .unset] [])) pre0 ?_
  show ∃ t o, Steps p.tables e below (s₁.setTop (mkF m 0 #[.val (.ref vb), .val (.int (0 : Int32)), .val (.int cn), .unset, .unset] [])) t ∧ _
  refine own_go (fun _ => XS.iloadN X0.here hx rfl (hb hby d32_0) rfl) ?_
  refine own_go (fun _ => XS.iloadN X0.here hx rfl (hb hby d32_1) rfl) ?_
  show ∃ t o, Steps p.tables e below (s₁.setTop (mkF m 2 #[.val (.ref vb), .val (.int (0 : Int32)), .val (.int cn), .unset, .unset] [(.int cn), (.int (0 : Int32))])) t ∧ _
  obtain ⟨_, _, ⟨T2, L2, k2, n2⟩, -, X2, ⟨Lc2, hQ2, l2, y2, z2⟩, st2⟩ := Jvm.LawKit.callS X0 hx (y := (⟨"java/util/Arrays", "checkLength", "(II)V"⟩ : MethodName)) hown (mvT hZ (hw _ (List.mem_of_getElem? (i := 182) rfl))) (mvT hZ (hw _ (List.mem_of_getElem? (i := 183) rfl))) (mvT hZ w_102) (mvT hZ w_184) (by decide) (backOf (W := 0) (rmCkl l Z a0 hw [] cn h0 n0 Z0 OLD (own_fit.nn f2 : ¬ (cn < (0 : Int32)))) hZ w_184 w_102 (by decide) (by decide)) (g := (mkF m 2 #[.val (.ref vb), .val (.int (0 : Int32)), .val (.int cn), .unset, .unset] [(.int cn), (.int (0 : Int32))])) rfl (by rw [hml]; rfl) (argsL := [(.int (0 : Int32)), (.int cn)]) (rest := []) (lenOf pd__28II_29V rfl) rfl (by show 2 * 0 + _ ≤ _; exact Nat.le_of_eq rfl) (hb hby d32_2) (fun _ _ => ⟨rfl, e0, (by decide : 0 + 0 ≤ _), (by decide : 0 + 0 ≤ _)⟩)
  dsimp only [Pt.U, Pt.locs, Pt.cells, Pt.slots] at X2 l2 y2 z2 st2 hQ2
  rw [l2, y2, z2] at X2
  obtain ⟨rfl, Nq2, e2⟩ := hQ2
  have N2 := Fr.app N0 Nq2
  refine own_go st2 ?_
  refine own_go (fun _ => XS.iloadN X2.here hx rfl (hb hby d32_5) rfl) ?_
  refine own_go (fun _ => XS.iloadN X2.here hx rfl (hb hby d32_6) rfl) ?_
  refine own_go (fun _ => XS.isub X2.here hx rfl (hb hby d32_7) rfl) ?_
  show ∃ t o, Steps p.tables e below (T2.setTop (mkF m 8 #[.val (.ref vb), .val (.int (0 : Int32)), .val (.int cn), .unset, .unset] [(.int (cn - (0 : Int32)))])) t ∧ _
  rw [own_sub0]
  show ∃ t o, Steps p.tables e below (T2.setTop (mkF m 8 #[.val (.ref vb), .val (.int (0 : Int32)), .val (.int cn), .unset, .unset] [(.int cn)])) t ∧ _
  refine own_go (fun _ => XS.istoreN X2.here hx rfl (hb hby d32_8) rfl (l' := #[.val (.ref vb), .val (.int (0 : Int32)), .val (.int cn), .val (.int cn), .unset]) rfl) ?_
  refine own_go (fun _ => XS.iloadN X2.here hx rfl (hb hby d32_9) rfl) ?_
  show ∃ t o, Steps p.tables e below (T2.setTop (mkF m 10 #[.val (.ref vb), .val (.int (0 : Int32)), .val (.int cn), .val (.int cn), .unset] [(.int cn)])) t ∧ _
  obtain ⟨T3, h3, k3, X3, e3, E3, A3, st3⟩ := newP (aty := .byte) X2 hx hZ (hw _ (List.mem_of_getElem? (i := 19) rfl)) e2 (g := (mkF m 10 #[.val (.ref vb), .val (.int (0 : Int32)), .val (.int cn), .val (.int cn), .unset] [(.int cn)])) rfl (hb hby d32_10) rfl (own_fit.nn f2) (cap := 142) (own_c250 f2 hcp) (by decide) (by decide) (by decide)
  obtain ⟨b3, g3⟩ : ∃ z, z = h0.size := ⟨_, rfl⟩
  rw [← g3] at A3 st3
  refine own_go st3 ?_
  have le_3 : h0.size ≤ h3.size := E3.1
  have lt_b3 : b3 < h3.size := A3.lt
  have V_b3 : Arv Z h3 b3 k3 .byte cn [] (.int (0 : Int32)) := Arv.new A3 (own_fit.nn f2)
  have K3 : Keep h0 h3 [] := Keep.ext (Keep.refl h0 []) E3
  refine own_go (fun _ => XS.astore X3.here hx rfl (hb hby d32_12) rfl rfl (l' := #[.val (.ref vb), .val (.int (0 : Int32)), .val (.int cn), .val (.int cn), .val (.ref b3)]) rfl) ?_
  refine own_go (fun _ => XS.aloadN X3.here hx rfl (hb hby d32_14) rfl rfl) ?_
  refine own_go (fun _ => XS.iloadN X3.here hx rfl (hb hby d32_15) rfl) ?_
  refine own_go (fun _ => XS.aload X3.here hx rfl (hb hby d32_16) rfl rfl) ?_
  refine own_go (fun _ => XS.iconst X3.here hx rfl (hb hby d32_18)) ?_
  refine own_go (fun _ => XS.aloadN X3.here hx rfl (hb hby d32_19) rfl rfl) ?_
  have F4 := (P1.ext E3)
  obtain ⟨cl5, Ar5, q5, S5, N5, H5, G5⟩ := id F4
  have ln5 : cl5.slots.size.toInt32 = cp := len_of S5 N5
  have al5 := X3.arraylength hx (by rw [e3]; exact Ar5.1) (State.isArrayOf_alike hZ.alike Ar5.2.1) (g := (mkF m 20 #[.val (.ref vb), .val (.int (0 : Int32)), .val (.int cn), .val (.int cn), .val (.ref b3)] [(.ref vb), (.int (0 : Int32)), (.ref b3), (.int (0 : Int32)), (.ref vb)])) rfl rfl (hb hby d32_20)
  rw [ln5] at al5
  refine own_go al5 ?_
  refine own_go (fun _ => XS.iloadN X3.here hx rfl (hb hby d32_21) rfl) ?_
  refine own_go (fun _ => XS.isub X3.here hx rfl (hb hby d32_22) rfl) ?_
  show ∃ t o, Steps p.tables e below (T3.setTop (mkF m 23 #[.val (.ref vb), .val (.int (0 : Int32)), .val (.int cn), .val (.int cn), .val (.ref b3)] [(.int (cp - (0 : Int32))), (.int (0 : Int32)), (.ref b3), (.int (0 : Int32)), (.ref vb)])) t ∧ _
  rw [own_sub0]
  show ∃ t o, Steps p.tables e below (T3.setTop (mkF m 23 #[.val (.ref vb), .val (.int (0 : Int32)), .val (.int cn), .val (.int cn), .val (.ref b3)] [(.int cp), (.int (0 : Int32)), (.ref b3), (.int (0 : Int32)), (.ref vb)])) t ∧ _
  refine own_go (fun _ => XS.iloadN X3.here hx rfl (hb hby d32_23) rfl) ?_
  show ∃ t o, Steps p.tables e below (T3.setTop (mkF m 24 #[.val (.ref vb), .val (.int (0 : Int32)), .val (.int cn), .val (.int cn), .val (.ref b3)] [(.int cn), (.int cp), (.int (0 : Int32)), (.ref b3), (.int (0 : Int32)), (.ref vb)])) t ∧ _
  have F6 := (OLD.ext E3)
  have zl7 : n0 ≤ h3.size := by omega
  obtain ⟨_, _, ⟨T8, L8, k8, n8⟩, -, X8, ⟨Lc8, hQ8, l8, y8, z8⟩, st8⟩ := Jvm.LawKit.callS X3 hx (y := (⟨"java/lang/Math", "min", "(II)I"⟩ : MethodName)) hown (mvT hZ (hw _ (List.mem_of_getElem? (i := 104) rfl))) (mvT hZ (hw _ (List.mem_of_getElem? (i := 105) rfl))) (mvT hZ w_96) (mvT hZ w_106) (by decide) (backOf (W := 4) (rmMinB l Z a0 hw [] cp cn h3 n0 zl7 F6 hlt) hZ w_106 w_96 (by decide) (by decide)) (g := (mkF m 24 #[.val (.ref vb), .val (.int (0 : Int32)), .val (.int cn), .val (.int cn), .val (.ref b3)] [(.int cn), (.int cp), (.int (0 : Int32)), (.ref b3), (.int (0 : Int32)), (.ref vb)])) rfl (by rw [hml]; rfl) (argsL := [(.int cp), (.int cn)]) (rest := [(.int (0 : Int32)), (.ref b3), (.int (0 : Int32)), (.ref vb)]) (lenOf pd__28II_29I rfl) rfl (by show 2 * 0 + _ ≤ _; exact Nat.le_of_eq rfl) (hb hby d32_24) (fun _ _ => ⟨rfl, e3, (by decide : 1 + 0 ≤ _), (by decide : 142 + 0 ≤ _)⟩)
  dsimp only [Pt.U, Pt.locs, Pt.cells, Pt.slots] at X8 l8 y8 z8 st8 hQ8
  rw [l8, y8, z8] at X8
  obtain ⟨rfl, Nq8, e8⟩ := hQ8
  have N8 := Fr.app N2 Nq8
  refine own_go st8 ?_
  show ∃ t o, Steps p.tables e below (T8.setTop (mkF m 27 #[.val (.ref vb), .val (.int (0 : Int32)), .val (.int cn), .val (.int cn), .val (.ref b3)] [(.int cn), (.int (0 : Int32)), (.ref b3), (.int (0 : Int32)), (.ref vb)])) t ∧ _
  have ge9 : n0 ≤ b3 := by omega
  obtain ⟨T10, h10, L10, X10, e10, N10, Kp10, V10, st10⟩ := own_cp X8 hx hZ hown (hw _ (List.mem_of_getElem? (i := 107) rfl)) (hw _ (List.mem_of_getElem? (i := 110) rfl)) (hw _ (List.mem_of_getElem? (i := 108) rfl)) (hw _ (List.mem_of_getElem? (i := 109) rfl)) e8 F4 V_b3 f2 (rfl : own_fit [] (0 : Int32)) (own_cap.le hcp) (by rw [own_fit.cl f2]; exact Nat.le_of_eq (Nat.zero_add _)) N8 ge9 (g := (mkF m 27 #[.val (.ref vb), .val (.int (0 : Int32)), .val (.int cn), .val (.int cn), .val (.ref b3)] [(.int cn), (.int (0 : Int32)), (.ref b3), (.int (0 : Int32)), (.ref vb)])) rfl (by rw [hml]; rfl) rfl (hb hby d32_27) (by decide) (W := 0) (by show 2 * 0 + _ ≤ _; exact Nat.le_of_eq rfl) (by decide +kernel)
  refine own_go st10 ?_
  have le_10 : h3.size ≤ h10.size := Kp10.1
  have sz11 : h0.size ≤ b3 := by omega
  have K10 : Keep h0 h10 [] := Keep.trans K3 Kp10 (allS (Or.inr sz11) all0)
  refine own_go (fun _ => XS.aload X10.here hx rfl (hb hby d32_30) rfl rfl) ?_
  show ∃ t o, Steps p.tables e below (T10.setTop (mkF m 32 #[.val (.ref vb), .val (.int (0 : Int32)), .val (.int cn), .val (.int cn), .val (.ref b3)] [(.ref b3)])) t ∧ _
  obtain ⟨fs, hr, hrun, hended, hW, hsame⟩ := X10.leave (v := some (.ref b3)) (fun h => by rw [Bd.returns] at h; cases h)
  refine ⟨_, _, ?_, hrun, hended, _, _, rfl, ?_, ⟨_, rfl⟩, hW, hsame.mono (by decide) (by decide)⟩
  · jvm_step X10.here [X10.here.top, hx, (hb hby d32_32), X10.method', Bd.returns, Value.isRef, FieldType.isReference]
    first | (intro acts; rw [hr _ acts rfl rfl rfl]) | rw [hr _ _ rfl rfl rfl]
    exact Steps.refl _
  · show Q_rmCrb Z _ _ _ _ _ h0 n0 _ T10.heap _
    rw [e10]
    exact ⟨b3, k3, rfl, N10, K10, V10, (by omega)⟩
theorem ef_rmCr (m : MethodId) (x0 : Nat) (x1 : Int32) (x2 : Int32) : entryFrame m #[(.ref x0), (.int x1), (.int x2)] 3 = mkF m 0 #[.val (.ref x0), .val (.int x1), .val (.int x2)] [] := by first | (simp [entryFrame, mkF, argsToLocals, Value.category]; done) | rfl
theorem d30_0 : decode jdk_65_method_132_code 0 = .ok (.iload_n 1, 1) := by decide +kernel
theorem d30_1 : decode jdk_65_method_132_code 1 = .ok (.ifCond .ne 9, 3) := by decide +kernel
theorem d30_4 : decode jdk_65_method_132_code 4 = .ok (.iload_n 2, 1) := by decide +kernel
theorem d30_5 : decode jdk_65_method_132_code 5 = .ok (.aload_n 0, 1) := by decide +kernel
theorem d30_6 : decode jdk_65_method_132_code 6 = .ok (.arraylength, 1) := by decide +kernel
theorem d30_7 : decode jdk_65_method_132_code 7 = .ok (.if_icmp .eq 10, 3) := by decide +kernel
theorem d30_17 : decode jdk_65_method_132_code 17 = .ok (.aload_n 0, 1) := by decide +kernel
theorem d30_18 : decode jdk_65_method_132_code 18 = .ok (.invokevirtual 310, 3) := by decide +kernel
theorem d30_21 : decode jdk_65_method_132_code 21 = .ok (.checkcast 311, 3) := by decide +kernel
theorem d30_24 : decode jdk_65_method_132_code 24 = .ok (.areturn, 1) := by decide +kernel
theorem d30_10 : decode jdk_65_method_132_code 10 = .ok (.aload_n 0, 1) := by decide +kernel
theorem d30_11 : decode jdk_65_method_132_code 11 = .ok (.iload_n 1, 1) := by decide +kernel
theorem d30_12 : decode jdk_65_method_132_code 12 = .ok (.iload_n 2, 1) := by decide +kernel
theorem d30_13 : decode jdk_65_method_132_code 13 = .ok (.invokestatic 339, 3) := by decide +kernel
theorem pd__28_5bBII_29_5bB : parseMethodDescriptor "([BII)[B" = some ⟨[(.array .byte), .int, .int], some (.array .byte)⟩ := by decide +kernel
theorem d30_16 : decode jdk_65_method_132_code 16 = .ok (.areturn, 1) := by decide +kernel
def Q_rmCr (Z : State) (vb : Nat) (kv : ClassId) (cp : Int32) (us : List Value) (cn : Int32) (h0 : Heap) (n0 : Nat) (v : Option Value) (h : Heap) (L : List Loc) : Prop := ∃ (nb : Nat), ∃ (kn : ClassId), v = some (.ref nb) ∧ Fr n0 L ∧ Keep h0 h [] ∧ Arv Z h nb kn .byte cn us (.int (0 : Int32)) ∧ (h0.size ≤ nb)
set_option maxRecDepth 65536 in
set_option maxHeartbeats 40000000 in
theorem rmCr (l : Launch) (Z : State) (a0 : Array Value) (hw : ∀ d ∈ tables_1, d.before a0 Z = true) (ws : List Jvm.Cond) (vb : Nat) (kv : ClassId) (cp : Int32) (us : List Value) (cn : Int32) (h0 : Heap) (n0 : Nat) (Z0 : n0 ≤ h0.size) (P1 : Exa Z h0 vb "[B") (P2 : Arv Z h0 vb kv .byte cp us (.int (0 : Int32))) (OLD : Old Z n0 h0) (f2 : own_fit us cn) (hcp : own_cap us cp) :
    MetFree l (⟨"java/util/Arrays", "copyOfRange", "([BII)[B"⟩ : MethodName) (head1 (Jvm.Cond.code (⟨"java/util/Arrays", "copyOfRange", "([BII)[B"⟩ : MethodName) jdk_65_method_132_code 3 (some (.array .byte)) :: ws) ({ frames := 2, cells := 1, slots := 142, locals := 34 } : Room)) (fun a U => a = #[(.ref vb), (.int (0 : Int32)), (.int cn)] ∧ Z.Warmed39 U.vm ∧ U.heap = h0) (fun _ _ _ _ _ => True) (fun _ U o U' => ∃ v L, o = .returned v ∧ Q_rmCr Z vb kv cp us cn h0 n0 v U'.heap L ∧ FrameEnd U o U' L ({ frames := 2, cells := 1, slots := 142, locals := 34 } : Room).cells ({ frames := 2, cells := 1, slots := 142, locals := 34 } : Room).slots) := by
  refine MetFree.of_bodySF (plainFor_of_name pn_java_util_Arrays) hisR ?_
  intro p e s m args below meth c s₁ Bd hml0 hP hK
  obtain ⟨rfl, hZ, hh⟩ := hP
  have hx := Bd.exec
  have hby := Bd.bytes
  have hml : c.maxLocals = 3 := hml0
  have hown : s.vm.findClass "java/util/Arrays" = some m.cls := findClass_of_methodNamed Bd.named
  have hnm := (name_of_methodNamed Bd.named Bd.method).1
  have X0 : Stand p l e ({ frames := 2, cells := 1, slots := 142, locals := 34 } : Room) s m #[(.ref vb), (.int (0 : Int32)), (.int cn)] below meth c s₁ [] 0 0 := Stand.of_body Bd
  have e0 : s₁.heap = h0 := by rw [← hh, Bd.state]; rfl
  have N0 := Fr.nil n0
  have pre0 : ∀ t, Steps p.tables e below (s₁.setTop (mkF m 0 #[.val (.ref vb), .val (.int (0 : Int32)), .val (.int cn)] [])) t → Steps p.tables e below (s₁.setTop (entryFrame m #[(.ref vb), (.int (0 : Int32)), (.int cn)] 3)) t := fun t k => castTop (ef_rmCr m vb (0 : Int32) cn) k
  have w_102 := hw _ (List.mem_of_getElem? (i := 102) rfl)
  have w_181 := hw _ (List.mem_of_getElem? (i := 181) rfl)
  have oz := OLD.1
  have lt_vb : vb < h0.size := P1.lt
  refine own_go (B := s₁.setTop (mkF m 0 #[.val (.ref vb), .val (.int (0 : Int32)), .val (.int cn)] [])) pre0 ?_
  show ∃ t o, Steps p.tables e below (s₁.setTop (mkF m 0 #[.val (.ref vb), .val (.int (0 : Int32)), .val (.int cn)] [])) t ∧ _
  refine own_go (fun _ => XS.iloadN X0.here hx rfl (hb hby d30_0) rfl) ?_
  show ∃ t o, Steps p.tables e below (s₁.setTop (mkF m 1 #[.val (.ref vb), .val (.int (0 : Int32)), .val (.int cn)] [(.int (0 : Int32))])) t ∧ _
  refine own_go (fun _ => XS.ifNo X0.here hx rfl (hb hby d30_1) rfl ((if0 _ _).trans (teq (by decide : (0 : Int32) = (0 : Int32))).2)) ?_
  refine own_go (fun _ => XS.iloadN X0.here hx rfl (hb hby d30_4) rfl) ?_
  refine own_go (fun _ => XS.aloadN X0.here hx rfl (hb hby d30_5) rfl rfl) ?_
  obtain ⟨cl3, Ar3, q3, S3, N3, H3, G3⟩ := id P2
  have ln3 : cl3.slots.size.toInt32 = cp := len_of S3 N3
  have al3 := X0.arraylength hx (by rw [e0]; exact Ar3.1) (State.isArrayOf_alike hZ.alike Ar3.2.1) (g := (mkF m 6 #[.val (.ref vb), .val (.int (0 : Int32)), .val (.int cn)] [(.ref vb), (.int cn)])) rfl rfl (hb hby d30_6)
  rw [ln3] at al3
  refine own_go al3 ?_
  show ∃ t o, Steps p.tables e below (s₁.setTop (mkF m 7 #[.val (.ref vb), .val (.int (0 : Int32)), .val (.int cn)] [(.int cp), (.int cn)])) t ∧ _
  by_cases hc4 : cn = cp
  · refine own_go (fun _ => XS.icmpYes X0.here hx rfl (pc0 := 7) (pc' := 17) rfl (hb hby d30_7) rfl (teq hc4).1 (by decide) (by decide)) ?_
    refine own_go (fun _ => XS.aloadN X0.here hx rfl (hb hby d30_17) rfl rfl) ?_
    show ∃ t o, Steps p.tables e below (s₁.setTop (mkF m 18 #[.val (.ref vb), .val (.int (0 : Int32)), .val (.int cn)] [(.ref vb)])) t ∧ _
    obtain ⟨T5, h5, X5, e5, E5, A5, Q5, st5⟩ := cloneH X0 hx hZ hown (hw _ (List.mem_of_getElem? (i := 161) rfl)) (hw _ (List.mem_of_getElem? (i := 162) rfl)) (hw _ (List.mem_of_getElem? (i := 166) rfl)) (hw _ (List.mem_of_getElem? (i := 164) rfl)) (hw _ (List.mem_of_getElem? (i := 165) rfl)) (hw _ (List.mem_of_getElem? (i := 167) rfl)) e0 (Arv.arh P2) P1 (g := (mkF m 18 #[.val (.ref vb), .val (.int (0 : Int32)), .val (.int cn)] [(.ref vb)])) rfl (by rw [hml]; rfl) rfl (hb hby d30_18) (by decide) (W := 0) (cap := 142) (by show 2 * 0 + _ ≤ _; exact Nat.le_of_eq rfl) (by decide) (own_c250c hcp) (by decide) (by decide)
    obtain ⟨b5, g5⟩ : ∃ z, z = h0.size := ⟨_, rfl⟩
    rw [← g5] at A5 Q5 st5
    refine own_go st5 ?_
    have le_5 : h0.size ≤ h5.size := E5.1
    have V_b5 : Arv Z h5 b5 kv .byte cp us (.int (0 : Int32)) := A5
    have lt_b5 : b5 < h5.size := V_b5.lt
    have K5 : Keep h0 h5 [] := Keep.ext (Keep.refl h0 []) E5
    obtain ⟨T6, X6, e6, st6⟩ := castY X5 hx hZ hown (hw _ (List.mem_of_getElem? (i := 168) rfl)) e5 (Ins.self Q5) (g := (mkF m 21 #[.val (.ref vb), .val (.int (0 : Int32)), .val (.int cn)] [(.ref b5)])) rfl rfl (hb hby d30_21)
    refine own_go st6 ?_
    have Vq : Arv Z h5 b5 kv .byte cn us (.int (0 : Int32)) := by rw [hc4]; exact V_b5
    show ∃ t o, Steps p.tables e below (T6.setTop (mkF m 24 #[.val (.ref vb), .val (.int (0 : Int32)), .val (.int cn)] [(.ref b5)])) t ∧ _
    obtain ⟨fs, hr, hrun, hended, hW, hsame⟩ := X6.leave (v := some (.ref b5)) (fun h => by rw [Bd.returns] at h; cases h)
    refine ⟨_, _, ?_, hrun, hended, _, _, rfl, ?_, ⟨_, rfl⟩, hW, hsame.mono (by decide) (by decide)⟩
    · jvm_step X6.here [X6.here.top, hx, (hb hby d30_24), X6.method', Bd.returns, Value.isRef, FieldType.isReference]
      first | (intro acts; rw [hr _ acts rfl rfl rfl]) | rw [hr _ _ rfl rfl rfl]
      exact Steps.refl _
    · show Q_rmCr Z _ _ _ _ _ h0 n0 _ T6.heap _
      rw [e6]
      exact ⟨b5, kv, rfl, N0, K5, Vq, (by omega)⟩
  · refine own_go (fun _ => XS.icmpNo X0.here hx rfl (hb hby d30_7) rfl (feq hc4).1) ?_
    refine own_go (fun _ => XS.aloadN X0.here hx rfl (hb hby d30_10) rfl rfl) ?_
    refine own_go (fun _ => XS.iloadN X0.here hx rfl (hb hby d30_11) rfl) ?_
    refine own_go (fun _ => XS.iloadN X0.here hx rfl (hb hby d30_12) rfl) ?_
    show ∃ t o, Steps p.tables e below (s₁.setTop (mkF m 13 #[.val (.ref vb), .val (.int (0 : Int32)), .val (.int cn)] [(.int cn), (.int (0 : Int32)), (.ref vb)])) t ∧ _
    obtain ⟨_, _, ⟨T7, L7, k7, n7⟩, -, X7, ⟨Lc7, hQ7, l7, y7, z7⟩, st7⟩ := Jvm.LawKit.callS X0 hx (y := (⟨"java/util/Arrays", "copyOfRangeByte", "([BII)[B"⟩ : MethodName)) hown (mvT hZ (hw _ (List.mem_of_getElem? (i := 179) rfl))) (mvT hZ (hw _ (List.mem_of_getElem? (i := 180) rfl))) (mvT hZ w_102) (mvT hZ w_181) (by decide) (backOf (W := 0) (rmCrb l Z a0 hw [] vb kv cp us cn h0 n0 Z0 P2 OLD f2 hcp (own_clt f2 hcp hc4 : cn < cp)) hZ w_181 w_102 (by decide) (by decide)) (g := (mkF m 13 #[.val (.ref vb), .val (.int (0 : Int32)), .val (.int cn)] [(.int cn), (.int (0 : Int32)), (.ref vb)])) rfl (by rw [hml]; rfl) (argsL := [(.ref vb), (.int (0 : Int32)), (.int cn)]) (rest := []) (lenOf pd__28_5bBII_29_5bB rfl) rfl (by show 2 * 0 + _ ≤ _; exact Nat.le_of_eq rfl) (hb hby d30_13) (fun _ _ => ⟨rfl, e0, (by decide : 0 + 1 ≤ _), (by decide : 0 + 142 ≤ _)⟩)
    dsimp only [Pt.U, Pt.locs, Pt.cells, Pt.slots] at X7 l7 y7 z7 st7 hQ7
    rw [l7, y7, z7] at X7
    obtain ⟨nb_7, kn_7, rfl, Nq7, Kp7, G7_0, H7_0⟩ := hQ7
    have N7 := Fr.app N0 Nq7
    refine own_go st7 ?_
    have le_7 : h0.size ≤ T7.heap.size := Kp7.1
    have K7 : Keep h0 T7.heap [] := Keep.trans (Keep.refl h0 []) Kp7 all0
    have lt_nb_7 : nb_7 < T7.heap.size := (G7_0).lt
    show ∃ t o, Steps p.tables e below (T7.setTop (mkF m 16 #[.val (.ref vb), .val (.int (0 : Int32)), .val (.int cn)] [(.ref nb_7)])) t ∧ _
    obtain ⟨fs, hr, hrun, hended, hW, hsame⟩ := X7.leave (v := some (.ref nb_7)) (fun h => by rw [Bd.returns] at h; cases h)
    refine ⟨_, _, ?_, hrun, hended, _, _, rfl, ?_, ⟨_, rfl⟩, hW, hsame.mono (by decide) (by decide)⟩
    · jvm_step X7.here [X7.here.top, hx, (hb hby d30_16), X7.method', Bd.returns, Value.isRef, FieldType.isReference]
      first | (intro acts; rw [hr _ acts rfl rfl rfl]) | rw [hr _ _ rfl rfl rfl]
      exact Steps.refl _
    · show Q_rmCr Z _ _ _ _ _ h0 n0 _ T7.heap _
      exact ⟨nb_7, kn_7, rfl, N7, K7, G7_0, H7_0⟩
theorem ef_rmGv (m : MethodId) (x0 : Nat) : entryFrame m #[(.ref x0)] 1 = mkF m 0 #[.val (.ref x0)] [] := by first | (simp [entryFrame, mkF, argsToLocals, Value.category]; done) | rfl
theorem d26_0 : decode jdk_68_method_64_code 0 = .ok (.aload_n 0, 1) := by decide +kernel
theorem d26_1 : decode jdk_68_method_64_code 1 = .ok (.getfield 15, 3) := by decide +kernel
theorem d26_4 : decode jdk_68_method_64_code 4 = .ok (.areturn, 1) := by decide +kernel
def Q_rmGv (Z : State) (sb : Nat) (vb : Nat) (h0 : Heap) (n0 : Nat) (v : Option Value) (h : Heap) (L : List Loc) : Prop := v = some (.ref vb) ∧ Fr n0 L ∧ h = h0
set_option maxRecDepth 65536 in
set_option maxHeartbeats 40000000 in
theorem rmGv (l : Launch) (Z : State) (a0 : Array Value) (hw : ∀ d ∈ tables_1, d.before a0 Z = true) (ws : List Jvm.Cond) (sb : Nat) (vb : Nat) (h0 : Heap) (n0 : Nat) (Z0 : n0 ≤ h0.size) (P1 : Fld Z h0 sb "java/lang/AbstractStringBuilder" "value" "[B" (.ref vb)) (OLD : Old Z n0 h0) :
    MetFree l (⟨"java/lang/AbstractStringBuilder", "getValue", "()[B"⟩ : MethodName) (head1 (Jvm.Cond.code (⟨"java/lang/AbstractStringBuilder", "getValue", "()[B"⟩ : MethodName) jdk_68_method_64_code 1 (some (.array .byte)) :: ws) ({ frames := 0, cells := 0, slots := 0, locals := 0 } : Room)) (fun a U => a = #[(.ref sb)] ∧ Z.Warmed39 U.vm ∧ U.heap = h0) (fun _ _ _ _ _ => True) (fun _ U o U' => ∃ v L, o = .returned v ∧ Q_rmGv Z sb vb h0 n0 v U'.heap L ∧ FrameEnd U o U' L ({ frames := 0, cells := 0, slots := 0, locals := 0 } : Room).cells ({ frames := 0, cells := 0, slots := 0, locals := 0 } : Room).slots) := by
  refine MetFree.of_bodySF (plainFor_of_name pn_java_lang_AbstractStringBuilder) hisR ?_
  intro p e s m args below meth c s₁ Bd hml0 hP hK
  obtain ⟨rfl, hZ, hh⟩ := hP
  have hx := Bd.exec
  have hby := Bd.bytes
  have hml : c.maxLocals = 1 := hml0
  have hown : s.vm.findClass "java/lang/AbstractStringBuilder" = some m.cls := findClass_of_methodNamed Bd.named
  have hnm := (name_of_methodNamed Bd.named Bd.method).1
  have X0 : Stand p l e ({ frames := 0, cells := 0, slots := 0, locals := 0 } : Room) s m #[(.ref sb)] below meth c s₁ [] 0 0 := Stand.of_body Bd
  have e0 : s₁.heap = h0 := by rw [← hh, Bd.state]; rfl
  have N0 := Fr.nil n0
  have pre0 : ∀ t, Steps p.tables e below (s₁.setTop (mkF m 0 #[.val (.ref sb)] [])) t → Steps p.tables e below (s₁.setTop (entryFrame m #[(.ref sb)] 1)) t := fun t k => castTop (ef_rmGv m sb) k
  have oz := OLD.1
  have lt_sb : sb < h0.size := P1.lt
  refine own_go (B := s₁.setTop (mkF m 0 #[.val (.ref sb)] [])) pre0 ?_
  show ∃ t o, Steps p.tables e below (s₁.setTop (mkF m 0 #[.val (.ref sb)] [])) t ∧ _
  refine own_go (fun _ => XS.aloadN X0.here hx rfl (hb hby d26_0) rfl rfl) ?_
  obtain ⟨T2, X2, e2, st2⟩ := getF X0 hx hZ hown (host := "") (Or.inl (hw _ (List.mem_of_getElem? (i := 53) rfl))) Via.refl e0 P1 (g := (mkF m 1 #[.val (.ref sb)] [(.ref sb)])) rfl rfl (hb hby d26_1)
  refine own_go st2 ?_
  show ∃ t o, Steps p.tables e below (T2.setTop (mkF m 4 #[.val (.ref sb)] [(.ref vb)])) t ∧ _
  obtain ⟨fs, hr, hrun, hended, hW, hsame⟩ := X2.leave (v := some (.ref vb)) (fun h => by rw [Bd.returns] at h; cases h)
  refine ⟨_, _, ?_, hrun, hended, _, _, rfl, ?_, ⟨_, rfl⟩, hW, hsame.mono (by decide) (by decide)⟩
  · jvm_step X2.here [X2.here.top, hx, (hb hby d26_4), X2.method', Bd.returns, Value.isRef, FieldType.isReference]
    first | (intro acts; rw [hr _ acts rfl rfl rfl]) | rw [hr _ _ rfl rfl rfl]
    exact Steps.refl _
  · show Q_rmGv Z _ _ h0 n0 _ T2.heap _
    rw [e2]
    exact ⟨rfl, N0, rfl⟩
theorem ef_rmABl (m : MethodId) (x0 : Nat) : entryFrame m #[(.ref x0)] 1 = mkF m 0 #[.val (.ref x0)] [] := by first | (simp [entryFrame, mkF, argsToLocals, Value.category]; done) | rfl
theorem d28_0 : decode jdk_68_method_6_code 0 = .ok (.aload_n 0, 1) := by decide +kernel
theorem d28_1 : decode jdk_68_method_6_code 1 = .ok (.getfield 79, 3) := by decide +kernel
theorem d28_4 : decode jdk_68_method_6_code 4 = .ok (.ireturn, 1) := by decide +kernel
def Q_rmABl (Z : State) (sb : Nat) (cn : Int32) (h0 : Heap) (n0 : Nat) (v : Option Value) (h : Heap) (L : List Loc) : Prop := v = some (.int cn) ∧ Fr n0 L ∧ h = h0
set_option maxRecDepth 65536 in
set_option maxHeartbeats 40000000 in
theorem rmABl (l : Launch) (Z : State) (a0 : Array Value) (hw : ∀ d ∈ tables_1, d.before a0 Z = true) (ws : List Jvm.Cond) (sb : Nat) (cn : Int32) (h0 : Heap) (n0 : Nat) (Z0 : n0 ≤ h0.size) (P1 : Fld Z h0 sb "java/lang/AbstractStringBuilder" "count" "I" (.int cn)) (OLD : Old Z n0 h0) :
    MetFree l (⟨"java/lang/AbstractStringBuilder", "length", "()I"⟩ : MethodName) (head1 (Jvm.Cond.code (⟨"java/lang/AbstractStringBuilder", "length", "()I"⟩ : MethodName) jdk_68_method_6_code 1 (some .int) :: ws) ({ frames := 0, cells := 0, slots := 0, locals := 0 } : Room)) (fun a U => a = #[(.ref sb)] ∧ Z.Warmed39 U.vm ∧ U.heap = h0) (fun _ _ _ _ _ => True) (fun _ U o U' => ∃ v L, o = .returned v ∧ Q_rmABl Z sb cn h0 n0 v U'.heap L ∧ FrameEnd U o U' L ({ frames := 0, cells := 0, slots := 0, locals := 0 } : Room).cells ({ frames := 0, cells := 0, slots := 0, locals := 0 } : Room).slots) := by
  refine MetFree.of_bodySF (plainFor_of_name pn_java_lang_AbstractStringBuilder) hisR ?_
  intro p e s m args below meth c s₁ Bd hml0 hP hK
  obtain ⟨rfl, hZ, hh⟩ := hP
  have hx := Bd.exec
  have hby := Bd.bytes
  have hml : c.maxLocals = 1 := hml0
  have hown : s.vm.findClass "java/lang/AbstractStringBuilder" = some m.cls := findClass_of_methodNamed Bd.named
  have hnm := (name_of_methodNamed Bd.named Bd.method).1
  have X0 : Stand p l e ({ frames := 0, cells := 0, slots := 0, locals := 0 } : Room) s m #[(.ref sb)] below meth c s₁ [] 0 0 := Stand.of_body Bd
  have e0 : s₁.heap = h0 := by rw [← hh, Bd.state]; rfl
  have N0 := Fr.nil n0
  have pre0 : ∀ t, Steps p.tables e below (s₁.setTop (mkF m 0 #[.val (.ref sb)] [])) t → Steps p.tables e below (s₁.setTop (entryFrame m #[(.ref sb)] 1)) t := fun t k => castTop (ef_rmABl m sb) k
  have oz := OLD.1
  have lt_sb : sb < h0.size := P1.lt
  refine own_go (B := s₁.setTop (mkF m 0 #[.val (.ref sb)] [])) pre0 ?_
  show ∃ t o, Steps p.tables e below (s₁.setTop (mkF m 0 #[.val (.ref sb)] [])) t ∧ _
  refine own_go (fun _ => XS.aloadN X0.here hx rfl (hb hby d28_0) rfl rfl) ?_
  obtain ⟨T2, X2, e2, st2⟩ := getF X0 hx hZ hown (host := "") (Or.inl (hw _ (List.mem_of_getElem? (i := 78) rfl))) Via.refl e0 P1 (g := (mkF m 1 #[.val (.ref sb)] [(.ref sb)])) rfl rfl (hb hby d28_1)
  refine own_go st2 ?_
  show ∃ t o, Steps p.tables e below (T2.setTop (mkF m 4 #[.val (.ref sb)] [(.int cn)])) t ∧ _
  obtain ⟨fs, hr, hrun, hended, hW, hsame⟩ := X2.leave (v := some (.int cn)) (fun h => by rw [Bd.returns] at h; cases h)
  refine ⟨_, _, ?_, hrun, hended, _, _, rfl, ?_, ⟨_, rfl⟩, hW, hsame.mono (by decide) (by decide)⟩
  · exact retI X2 hx Bd.returns (hb hby d28_4) hr
  · show Q_rmABl Z _ _ h0 n0 _ T2.heap _
    rw [e2]
    exact ⟨rfl, N0, rfl⟩
theorem ef_rmSBl (m : MethodId) (x0 : Nat) : entryFrame m #[(.ref x0)] 1 = mkF m 0 #[.val (.ref x0)] [] := by first | (simp [entryFrame, mkF, argsToLocals, Value.category]; done) | rfl
theorem d27_0 : decode jdk_67_method_93_code 0 = .ok (.aload_n 0, 1) := by decide +kernel
theorem d27_1 : decode jdk_67_method_93_code 1 = .ok (.invokespecial 343, 3) := by decide +kernel
theorem d27_4 : decode jdk_67_method_93_code 4 = .ok (.ireturn, 1) := by decide +kernel
def Q_rmSBl (Z : State) (sb : Nat) (cn : Int32) (h0 : Heap) (n0 : Nat) (v : Option Value) (h : Heap) (L : List Loc) : Prop := v = some (.int cn) ∧ Fr n0 L ∧ h = h0
set_option maxRecDepth 65536 in
set_option maxHeartbeats 40000000 in
theorem rmSBl (l : Launch) (Z : State) (a0 : Array Value) (hw : ∀ d ∈ tables_1, d.before a0 Z = true) (ws : List Jvm.Cond) (sb : Nat) (cn : Int32) (h0 : Heap) (n0 : Nat) (Z0 : n0 ≤ h0.size) (P1 : Exa Z h0 sb "java/lang/StringBuilder") (P2 : Fld Z h0 sb "java/lang/AbstractStringBuilder" "count" "I" (.int cn)) (OLD : Old Z n0 h0) :
    MetFree l (⟨"java/lang/StringBuilder", "length", "()I"⟩ : MethodName) (head1 (Jvm.Cond.code (⟨"java/lang/StringBuilder", "length", "()I"⟩ : MethodName) jdk_67_method_93_code 1 (some .int) :: ws) ({ frames := 1, cells := 0, slots := 0, locals := 12 } : Room)) (fun a U => a = #[(.ref sb)] ∧ Z.Warmed39 U.vm ∧ U.heap = h0) (fun _ _ _ _ _ => True) (fun _ U o U' => ∃ v L, o = .returned v ∧ Q_rmSBl Z sb cn h0 n0 v U'.heap L ∧ FrameEnd U o U' L ({ frames := 1, cells := 0, slots := 0, locals := 12 } : Room).cells ({ frames := 1, cells := 0, slots := 0, locals := 12 } : Room).slots) := by
  refine MetFree.of_bodySF (plainFor_of_name pn_java_lang_StringBuilder) hisR ?_
  intro p e s m args below meth c s₁ Bd hml0 hP hK
  obtain ⟨rfl, hZ, hh⟩ := hP
  have hx := Bd.exec
  have hby := Bd.bytes
  have hml : c.maxLocals = 1 := hml0
  have hown : s.vm.findClass "java/lang/StringBuilder" = some m.cls := findClass_of_methodNamed Bd.named
  have hnm := (name_of_methodNamed Bd.named Bd.method).1
  have X0 : Stand p l e ({ frames := 1, cells := 0, slots := 0, locals := 12 } : Room) s m #[(.ref sb)] below meth c s₁ [] 0 0 := Stand.of_body Bd
  have e0 : s₁.heap = h0 := by rw [← hh, Bd.state]; rfl
  have N0 := Fr.nil n0
  have pre0 : ∀ t, Steps p.tables e below (s₁.setTop (mkF m 0 #[.val (.ref sb)] [])) t → Steps p.tables e below (s₁.setTop (entryFrame m #[(.ref sb)] 1)) t := fun t k => castTop (ef_rmSBl m sb) k
  have w_147 := hw _ (List.mem_of_getElem? (i := 147) rfl)
  have w_152 := hw _ (List.mem_of_getElem? (i := 152) rfl)
  have oz := OLD.1
  have lt_sb : sb < h0.size := P1.lt
  refine own_go (B := s₁.setTop (mkF m 0 #[.val (.ref sb)] [])) pre0 ?_
  show ∃ t o, Steps p.tables e below (s₁.setTop (mkF m 0 #[.val (.ref sb)] [])) t ∧ _
  refine own_go (fun _ => XS.aloadN X0.here hx rfl (hb hby d27_0) rfl rfl) ?_
  show ∃ t o, Steps p.tables e below (s₁.setTop (mkF m 1 #[.val (.ref sb)] [(.ref sb)])) t ∧ _
  obtain ⟨_, _, ⟨T3, L3, k3, n3⟩, -, X3, ⟨Lc3, hQ3, l3, y3, z3⟩, st3⟩ := superBack X0 hx hZ (y := (⟨"java/lang/AbstractStringBuilder", "length", "()I"⟩ : MethodName)) hown (hw _ (List.mem_of_getElem? (i := 151) rfl)) (own_same (y := (⟨"java/lang/AbstractStringBuilder", "length", "()I"⟩ : MethodName)) (hw _ (List.mem_of_getElem? (i := 83) rfl)) rfl w_147 (by decide)) w_147 (hw _ (List.mem_of_getElem? (i := 65) rfl)) (by decide) (backOf (W := 0) (rmABl l Z a0 hw [] sb cn h0 n0 Z0 P2 OLD) hZ w_152 (hw _ (List.mem_of_getElem? (i := 49) rfl)) (by decide) (by decide)) e0 (Ins.self P1) (g := (mkF m 1 #[.val (.ref sb)] [(.ref sb)])) rfl (by rw [hml]; rfl) w_152 (argsL := []) (rest := []) (lenOf pd__28_29I rfl) rfl (by show 2 * 0 + _ ≤ _; exact Nat.le_of_eq rfl) (hb hby d27_1) (fun _ _ => ⟨rfl, e0, (by decide : 0 + 0 ≤ _), (by decide : 0 + 0 ≤ _)⟩)
  dsimp only [Pt.U, Pt.locs, Pt.cells, Pt.slots] at X3 l3 y3 z3 st3 hQ3
  rw [l3, y3, z3] at X3
  obtain ⟨rfl, Nq3, e3⟩ := hQ3
  have N3 := Fr.app N0 Nq3
  refine own_goT st3 ?_
  show ∃ t o, Steps p.tables e below (T3.setTop (mkF m 4 #[.val (.ref sb)] [(.int cn)])) t ∧ _
  obtain ⟨fs, hr, hrun, hended, hW, hsame⟩ := X3.leave (v := some (.int cn)) (fun h => by rw [Bd.returns] at h; cases h)
  refine ⟨_, _, ?_, hrun, hended, _, _, rfl, ?_, ⟨_, rfl⟩, hW, hsame.mono (by decide) (by decide)⟩
  · exact retI X3 hx Bd.returns (hb hby d27_4) hr
  · show Q_rmSBl Z _ _ h0 n0 _ T3.heap _
    rw [e3]
    exact ⟨rfl, N3, rfl⟩
theorem ef_rmABL1 (m : MethodId) (x0 : Nat) : entryFrame m #[(.ref x0)] 1 = mkF m 0 #[.val (.ref x0)] [] := by first | (simp [entryFrame, mkF, argsToLocals, Value.category]; done) | rfl
theorem d29_0 : decode jdk_68_method_68_code 0 = .ok (.getstatic 18, 3) := by decide +kernel
theorem d29_3 : decode jdk_68_method_68_code 3 = .ok (.ifCond .eq 14, 3) := by decide +kernel
theorem d29_6 : decode jdk_68_method_68_code 6 = .ok (.aload_n 0, 1) := by decide +kernel
theorem d29_7 : decode jdk_68_method_68_code 7 = .ok (.getfield 22, 3) := by decide +kernel
theorem d29_10 : decode jdk_68_method_68_code 10 = .ok (.ifCond .ne 7, 3) := by decide +kernel
theorem d29_13 : decode jdk_68_method_68_code 13 = .ok (.iconst 1, 1) := by decide +kernel
theorem d29_14 : decode jdk_68_method_68_code 14 = .ok (.goto 4, 3) := by decide +kernel
theorem d29_18 : decode jdk_68_method_68_code 18 = .ok (.ireturn, 1) := by decide +kernel
def Q_rmABL1 (Z : State) (sb : Nat) (zc : Int32) (h0 : Heap) (n0 : Nat) (v : Option Value) (h : Heap) (L : List Loc) : Prop := v = some (.int (1 : Int32)) ∧ Fr n0 L ∧ h = h0
set_option maxRecDepth 65536 in
set_option maxHeartbeats 40000000 in
theorem rmABL1 (l : Launch) (Z : State) (a0 : Array Value) (hw : ∀ d ∈ tables_1, d.before a0 Z = true) (ws : List Jvm.Cond) (sb : Nat) (zc : Int32) (h0 : Heap) (n0 : Nat) (Z0 : n0 ≤ h0.size) (P1 : Fld Z h0 sb "java/lang/AbstractStringBuilder" "coder" "B" (.int (0 : Int32))) (OLD : Old Z n0 h0) (P2 : Sta Z Z.heap "java/lang/String" "COMPACT_STRINGS" "Z" (.int zc)) (hzc : ¬ (zc = (0 : Int32))) :
    MetFree l (⟨"java/lang/AbstractStringBuilder", "isLatin1", "()Z"⟩ : MethodName) (head1 (Jvm.Cond.code (⟨"java/lang/AbstractStringBuilder", "isLatin1", "()Z"⟩ : MethodName) jdk_68_method_68_code 1 (some .boolean) :: ws) ({ frames := 0, cells := 0, slots := 0, locals := 0 } : Room)) (fun a U => a = #[(.ref sb)] ∧ Z.Warmed39 U.vm ∧ U.heap = h0) (fun _ _ _ _ _ => True) (fun _ U o U' => ∃ v L, o = .returned v ∧ Q_rmABL1 Z sb zc h0 n0 v U'.heap L ∧ FrameEnd U o U' L ({ frames := 0, cells := 0, slots := 0, locals := 0 } : Room).cells ({ frames := 0, cells := 0, slots := 0, locals := 0 } : Room).slots) := by
  refine MetFree.of_bodySF (plainFor_of_name pn_java_lang_AbstractStringBuilder) hisR ?_
  intro p e s m args below meth c s₁ Bd hml0 hP hK
  obtain ⟨rfl, hZ, hh⟩ := hP
  have hx := Bd.exec
  have hby := Bd.bytes
  have hml : c.maxLocals = 1 := hml0
  have hown : s.vm.findClass "java/lang/AbstractStringBuilder" = some m.cls := findClass_of_methodNamed Bd.named
  have hnm := (name_of_methodNamed Bd.named Bd.method).1
  have X0 : Stand p l e ({ frames := 0, cells := 0, slots := 0, locals := 0 } : Room) s m #[(.ref sb)] below meth c s₁ [] 0 0 := Stand.of_body Bd
  have e0 : s₁.heap = h0 := by rw [← hh, Bd.state]; rfl
  have N0 := Fr.nil n0
  have pre0 : ∀ t, Steps p.tables e below (s₁.setTop (mkF m 0 #[.val (.ref sb)] [])) t → Steps p.tables e below (s₁.setTop (entryFrame m #[(.ref sb)] 1)) t := fun t k => castTop (ef_rmABL1 m sb) k
  have oz := OLD.1
  have lt_sb : sb < h0.size := P1.lt
  refine own_go (B := s₁.setTop (mkF m 0 #[.val (.ref sb)] [])) pre0 ?_
  show ∃ t o, Steps p.tables e below (s₁.setTop (mkF m 0 #[.val (.ref sb)] [])) t ∧ _
  obtain ⟨T3, X3, e3, st3⟩ := getS2 X0 hx hZ hown (host := "") (Or.inl (hw _ (List.mem_of_getElem? (i := 52) rfl))) Via.refl e0 (Sta.ext OLD.2 P2) (g := (mkF m 0 #[.val (.ref sb)] [])) rfl (hb hby d29_0)
  refine own_go st3 ?_
  show ∃ t o, Steps p.tables e below (T3.setTop (mkF m 3 #[.val (.ref sb)] [(.int zc)])) t ∧ _
  refine own_go (fun _ => XS.ifNo X3.here hx rfl (hb hby d29_3) rfl ((if0 _ _).trans (feq hzc).1)) ?_
  refine own_go (fun _ => XS.aloadN X3.here hx rfl (hb hby d29_6) rfl rfl) ?_
  obtain ⟨T4, X4, e4, st4⟩ := getF X3 hx hZ hown (host := "") (Or.inl (hw _ (List.mem_of_getElem? (i := 55) rfl))) Via.refl e3 P1 (g := (mkF m 7 #[.val (.ref sb)] [(.ref sb)])) rfl rfl (hb hby d29_7)
  refine own_go st4 ?_
  show ∃ t o, Steps p.tables e below (T4.setTop (mkF m 10 #[.val (.ref sb)] [(.int (0 : Int32))])) t ∧ _
  refine own_go (fun _ => XS.ifNo X4.here hx rfl (hb hby d29_10) rfl ((if0 _ _).trans (teq (by decide : (0 : Int32) = (0 : Int32))).2)) ?_
  refine own_go (fun _ => XS.iconst X4.here hx rfl (hb hby d29_13)) ?_
  refine own_go (fun _ => XS.goto X4.here hx rfl (pc0 := 14) (pc' := 18) rfl (hb hby d29_14) (by decide) (by decide)) ?_
  show ∃ t o, Steps p.tables e below (T4.setTop (mkF m 18 #[.val (.ref sb)] [(.int (1 : Int32))])) t ∧ _
  obtain ⟨fs, hr, hrun, hended, hW, hsame⟩ := X4.leave (v := some (.int (1 : Int32))) (fun h => by rw [Bd.returns] at h; cases h)
  refine ⟨_, _, ?_, hrun, hended, _, _, rfl, ?_, ⟨_, rfl⟩, hW, hsame.mono (by decide) (by decide)⟩
  · exact retN X4 hx (t := .boolean) Bd.returns (by simp) (hb hby d29_18) hr
  · show Q_rmABL1 Z _ _ h0 n0 _ T4.heap _
    rw [e4]
    exact ⟨rfl, N0, rfl⟩
theorem ef_rmST2 (m : MethodId) (x0 : Nat) (x1 : Nat) : entryFrame m #[(.ref x0), (.ref x1), .null] 5 = mkF m 0 #[.val (.ref x0), .val (.ref x1), .val .null, .unset, .unset] [] := by first | (simp [entryFrame, mkF, argsToLocals, Value.category]; done) | rfl
theorem d25_0 : decode jdk_42_method_150_code 0 = .ok (.aload_n 0, 1) := by decide +kernel
theorem d25_1 : decode jdk_42_method_150_code 1 = .ok (.invokespecial 1, 3) := by decide +kernel
theorem d25_4 : decode jdk_42_method_150_code 4 = .ok (.aload_n 1, 1) := by decide +kernel
theorem d25_5 : decode jdk_42_method_150_code 5 = .ok (.invokevirtual 552, 3) := by decide +kernel
theorem pd__28_29_5bB : parseMethodDescriptor "()[B" = some ⟨[], some (.array .byte)⟩ := by decide +kernel
theorem d25_8 : decode jdk_42_method_150_code 8 = .ok (.astore_n 3, 1) := by decide +kernel
theorem d25_9 : decode jdk_42_method_150_code 9 = .ok (.aload_n 1, 1) := by decide +kernel
theorem d25_10 : decode jdk_42_method_150_code 10 = .ok (.invokevirtual 549, 3) := by decide +kernel
theorem d25_13 : decode jdk_42_method_150_code 13 = .ok (.istore 4, 2) := by decide +kernel
theorem d25_15 : decode jdk_42_method_150_code 15 = .ok (.aload_n 1, 1) := by decide +kernel
theorem d25_16 : decode jdk_42_method_150_code 16 = .ok (.invokevirtual 1047, 3) := by decide +kernel
theorem pd__28_29Z : parseMethodDescriptor "()Z" = some ⟨[], some .boolean⟩ := by decide +kernel
theorem d25_19 : decode jdk_42_method_150_code 19 = .ok (.ifCond .eq 22, 3) := by decide +kernel
theorem d25_22 : decode jdk_42_method_150_code 22 = .ok (.aload_n 0, 1) := by decide +kernel
theorem d25_23 : decode jdk_42_method_150_code 23 = .ok (.iconst 0, 1) := by decide +kernel
theorem d25_24 : decode jdk_42_method_150_code 24 = .ok (.putfield 15, 3) := by decide +kernel
theorem d25_27 : decode jdk_42_method_150_code 27 = .ok (.aload_n 0, 1) := by decide +kernel
theorem d25_28 : decode jdk_42_method_150_code 28 = .ok (.aload_n 3, 1) := by decide +kernel
theorem d25_29 : decode jdk_42_method_150_code 29 = .ok (.iconst 0, 1) := by decide +kernel
theorem d25_30 : decode jdk_42_method_150_code 30 = .ok (.iload 4, 2) := by decide +kernel
theorem d25_32 : decode jdk_42_method_150_code 32 = .ok (.invokestatic 54, 3) := by decide +kernel
theorem d25_35 : decode jdk_42_method_150_code 35 = .ok (.putfield 9, 3) := by decide +kernel
theorem d25_38 : decode jdk_42_method_150_code 38 = .ok (.goto 59, 3) := by decide +kernel
theorem d25_97 : decode jdk_42_method_150_code 97 = .ok (.return_, 1) := by decide +kernel
def Q_rmST2 (Z : State) (a1 : Nat) (sb : Nat) (vb : Nat) (kv : ClassId) (cp : Int32) (us : List Value) (cn : Int32) (zc : Int32) (h0 : Heap) (n0 : Nat) (v : Option Value) (h : Heap) (L : List Loc) : Prop := ∃ (tb : Nat), ∃ (kb : ClassId), v = none ∧ Fr n0 L ∧ Keep h0 h [a1] ∧ Exa Z h a1 "java/lang/String" ∧ Fld Z h a1 "java/lang/String" "value" "[B" (.ref tb) ∧ Fld Z h a1 "java/lang/String" "coder" "B" (.int (0 : Int32)) ∧ Arv Z h tb kb .byte cn us (.int (0 : Int32)) ∧ (h0.size ≤ tb)
set_option maxRecDepth 65536 in
set_option maxHeartbeats 40000000 in
theorem rmST2 (l : Launch) (Z : State) (a0 : Array Value) (hw : ∀ d ∈ tables_1, d.before a0 Z = true) (ws : List Jvm.Cond) (a1 : Nat) (sb : Nat) (vb : Nat) (kv : ClassId) (cp : Int32) (us : List Value) (cn : Int32) (zc : Int32) (h0 : Heap) (n0 : Nat) (Z0 : n0 ≤ h0.size) (P1 : Exa Z h0 a1 "java/lang/String") (P2 : Fld Z h0 a1 "java/lang/String" "value" "[B" .null) (P3 : Fld Z h0 a1 "java/lang/String" "coder" "B" (.int (0 : Int32))) (P4 : Exa Z h0 sb "java/lang/StringBuilder") (P5 : Fld Z h0 sb "java/lang/AbstractStringBuilder" "value" "[B" (.ref vb)) (P6 : Fld Z h0 sb "java/lang/AbstractStringBuilder" "coder" "B" (.int (0 : Int32))) (P7 : Fld Z h0 sb "java/lang/AbstractStringBuilder" "count" "I" (.int cn)) (P8 : Exa Z h0 vb "[B") (P9 : Arv Z h0 vb kv .byte cp us (.int (0 : Int32))) (P10 : Fld Z h0 sb "java/lang/AbstractStringBuilder" "maybeLatin1" "Z" (.int (0 : Int32))) (OLD : Old Z n0 h0) (P11 : Sta Z Z.heap "java/lang/String" "COMPACT_STRINGS" "Z" (.int zc)) (hzc : ¬ (zc = (0 : Int32))) (f2 : own_fit us cn) (hcp : own_cap us cp) (ga : n0 ≤ a1) (ha2 : vb ≠ a1) :
    MetFree l (⟨"java/lang/String", "<init>", "(Ljava/lang/AbstractStringBuilder;Ljava/lang/Void;)V"⟩ : MethodName) (head1 (Jvm.Cond.code (⟨"java/lang/String", "<init>", "(Ljava/lang/AbstractStringBuilder;Ljava/lang/Void;)V"⟩ : MethodName) jdk_42_method_150_code 5 none :: ws) ({ frames := 3, cells := 1, slots := 142, locals := 49 } : Room)) (fun a U => a = #[(.ref a1), (.ref sb), .null] ∧ Z.Warmed39 U.vm ∧ U.heap = h0) (fun _ _ _ _ _ => True) (fun _ U o U' => ∃ v L, o = .returned v ∧ Q_rmST2 Z a1 sb vb kv cp us cn zc h0 n0 v U'.heap L ∧ FrameEnd U o U' L ({ frames := 3, cells := 1, slots := 142, locals := 49 } : Room).cells ({ frames := 3, cells := 1, slots := 142, locals := 49 } : Room).slots) := by
  refine MetFree.of_bodySF (plainFor_of_name pn_java_lang_String) hisR ?_
  intro p e s m args below meth c s₁ Bd hml0 hP hK
  obtain ⟨rfl, hZ, hh⟩ := hP
  have hx := Bd.exec
  have hby := Bd.bytes
  have hml : c.maxLocals = 5 := hml0
  have hown : s.vm.findClass "java/lang/String" = some m.cls := findClass_of_methodNamed Bd.named
  have hnm := (name_of_methodNamed Bd.named Bd.method).1
  have X0 : Stand p l e ({ frames := 3, cells := 1, slots := 142, locals := 49 } : Room) s m #[(.ref a1), (.ref sb), .null] below meth c s₁ [] 0 0 := Stand.of_body Bd
  have e0 : s₁.heap = h0 := by rw [← hh, Bd.state]; rfl
  have N0 := Fr.nil n0
  have pre0 : ∀ t, Steps p.tables e below (s₁.setTop (mkF m 0 #[.val (.ref a1), .val (.ref sb), .val .null, .unset, .unset] [])) t → Steps p.tables e below (s₁.setTop (entryFrame m #[(.ref a1), (.ref sb), .null] 5)) t := fun t k => castTop (ef_rmST2 m a1 sb) k
  have w_1 := hw _ (List.mem_of_getElem? (i := 1) rfl)
  have w_102 := hw _ (List.mem_of_getElem? (i := 102) rfl)
  have w_143 := hw _ (List.mem_of_getElem? (i := 143) rfl)
  have w_156 := hw _ (List.mem_of_getElem? (i := 156) rfl)
  have w_160 := hw _ (List.mem_of_getElem? (i := 160) rfl)
  have w_27 := hw _ (List.mem_of_getElem? (i := 27) rfl)
  have w_29 := hw _ (List.mem_of_getElem? (i := 29) rfl)
  have w_49 := hw _ (List.mem_of_getElem? (i := 49) rfl)
  have oz := OLD.1
  have lt_a1 : a1 < h0.size := P1.lt
  have lt_sb : sb < h0.size := P4.lt
  have lt_vb : vb < h0.size := P8.lt
  refine own_go (B := s₁.setTop (mkF m 0 #[.val (.ref a1), .val (.ref sb), .val .null, .unset, .unset] [])) pre0 ?_
  show ∃ t o, Steps p.tables e below (s₁.setTop (mkF m 0 #[.val (.ref a1), .val (.ref sb), .val .null, .unset, .unset] [])) t ∧ _
  refine own_go (fun _ => XS.aloadN X0.here hx rfl (hb hby d25_0) rfl rfl) ?_
  show ∃ t o, Steps p.tables e below (s₁.setTop (mkF m 1 #[.val (.ref a1), .val (.ref sb), .val .null, .unset, .unset] [(.ref a1)])) t ∧ _
  obtain ⟨T12, X12, e12, st12⟩ := initO X0 hx hZ hown (hw _ (List.mem_of_getElem? (i := 11) rfl)) (hw _ (List.mem_of_getElem? (i := 12) rfl)) (hw _ (List.mem_of_getElem? (i := 13) rfl)) e0 (g := (mkF m 1 #[.val (.ref a1), .val (.ref sb), .val .null, .unset, .unset] [(.ref a1)])) rfl (by rw [hml]; rfl) rfl (hb hby d25_1) (by decide) (W := 0) (by show 2 * 0 + _ ≤ _; exact Nat.le_of_eq rfl) (by decide)
  refine own_go st12 ?_
  refine own_go (fun _ => XS.aloadN X12.here hx rfl (hb hby d25_4) rfl rfl) ?_
  show ∃ t o, Steps p.tables e below (T12.setTop (mkF m 5 #[.val (.ref a1), .val (.ref sb), .val .null, .unset, .unset] [(.ref sb)])) t ∧ _
  obtain ⟨cq13, kq13, q13a, q13b, q13c⟩ := isOf hZ e12 P4
  obtain ⟨_, _, ⟨T13, L13, k13, n13⟩, -, X13, ⟨Lc13, hQ13, l13, y13, z13⟩, st13⟩ := X12.virtualBack hx (y := (⟨"java/lang/AbstractStringBuilder", "getValue", "()[B"⟩ : MethodName)) (z := (⟨"java/lang/AbstractStringBuilder", "getValue", "()[B"⟩ : MethodName)) hown (mvT hZ (hw _ (List.mem_of_getElem? (i := 140) rfl))) (mvT hZ (hw _ (List.mem_of_getElem? (i := 141) rfl))) (notFace_of_selects (args := #[]) (mvT hZ w_143)) (mvT hZ w_143) (mvT hZ (hw _ (List.mem_of_getElem? (i := 142) rfl))) (by decide) (backOf (W := 0) (rmGv l Z a0 hw [] sb vb h0 n0 Z0 P5 OLD) hZ (hw _ (List.mem_of_getElem? (i := 144) rfl)) w_49 (by decide) (by decide)) q13a q13c (g := (mkF m 5 #[.val (.ref a1), .val (.ref sb), .val .null, .unset, .unset] [(.ref sb)])) rfl (by rw [hml]; rfl) (Steps.refl _) (argsL := []) (rest := []) (lenOf pd__28_29_5bB rfl) rfl (by show 2 * 0 + _ ≤ _; exact Nat.le_of_eq rfl) (hb hby d25_5) (fun _ _ => ⟨rfl, e12, (by decide : 0 + 0 ≤ _), (by decide : 0 + 0 ≤ _)⟩)
  dsimp only [Pt.U, Pt.locs, Pt.cells, Pt.slots] at X13 l13 y13 z13 st13 hQ13
  rw [l13, y13, z13] at X13
  obtain ⟨rfl, Nq13, e13⟩ := hQ13
  have N13 := Fr.app N0 Nq13
  refine own_goT st13 ?_
  refine own_go (fun _ => XS.astoreN X13.here hx rfl (hb hby d25_8) rfl rfl (l' := #[.val (.ref a1), .val (.ref sb), .val .null, .val (.ref vb), .unset]) rfl) ?_
  refine own_go (fun _ => XS.aloadN X13.here hx rfl (hb hby d25_9) rfl rfl) ?_
  show ∃ t o, Steps p.tables e below (T13.setTop (mkF m 10 #[.val (.ref a1), .val (.ref sb), .val .null, .val (.ref vb), .unset] [(.ref sb)])) t ∧ _
  obtain ⟨cq14, kq14, q14a, q14b, q14c⟩ := isOf hZ e13 P4
  obtain ⟨_, _, ⟨T14, L14, k14, n14⟩, -, X14, ⟨Lc14, hQ14, l14, y14, z14⟩, st14⟩ := X13.virtualBack hx (y := (⟨"java/lang/AbstractStringBuilder", "length", "()I"⟩ : MethodName)) (z := (⟨"java/lang/StringBuilder", "length", "()I"⟩ : MethodName)) hown (mvT hZ (hw _ (List.mem_of_getElem? (i := 145) rfl))) (mvT hZ (hw _ (List.mem_of_getElem? (i := 146) rfl))) (own_nfo (args := #[]) (mvT hZ (hw _ (List.mem_of_getElem? (i := 83) rfl))) rfl) (mvT hZ (hw _ (List.mem_of_getElem? (i := 148) rfl))) (mvT hZ (hw _ (List.mem_of_getElem? (i := 149) rfl))) (by decide) (backOf (W := 0) (rmSBl l Z a0 hw [] sb cn h0 n0 Z0 P4 P7 OLD) hZ (hw _ (List.mem_of_getElem? (i := 150) rfl)) (hw _ (List.mem_of_getElem? (i := 41) rfl)) (by decide) (by decide)) q14a q14c (g := (mkF m 10 #[.val (.ref a1), .val (.ref sb), .val .null, .val (.ref vb), .unset] [(.ref sb)])) rfl (by rw [hml]; rfl) (Steps.refl _) (argsL := []) (rest := []) (lenOf pd__28_29I rfl) rfl (by show 2 * 0 + _ ≤ _; exact Nat.le_of_eq rfl) (hb hby d25_10) (fun _ _ => ⟨rfl, e13, (by decide : 0 + 0 ≤ _), (by decide : 0 + 0 ≤ _)⟩)
  dsimp only [Pt.U, Pt.locs, Pt.cells, Pt.slots] at X14 l14 y14 z14 st14 hQ14
  rw [l14, y14, z14] at X14
  obtain ⟨rfl, Nq14, e14⟩ := hQ14
  have N14 := Fr.app N13 Nq14
  refine own_goT st14 ?_
  refine own_go (fun _ => XS.istore X14.here hx rfl (hb hby d25_13) rfl (l' := #[.val (.ref a1), .val (.ref sb), .val .null, .val (.ref vb), .val (.int cn)]) rfl) ?_
  refine own_go (fun _ => XS.aloadN X14.here hx rfl (hb hby d25_15) rfl rfl) ?_
  show ∃ t o, Steps p.tables e below (T14.setTop (mkF m 16 #[.val (.ref a1), .val (.ref sb), .val .null, .val (.ref vb), .val (.int cn)] [(.ref sb)])) t ∧ _
  obtain ⟨cq15, kq15, q15a, q15b, q15c⟩ := isOf hZ e14 P4
  obtain ⟨_, _, ⟨T15, L15, k15, n15⟩, -, X15, ⟨Lc15, hQ15, l15, y15, z15⟩, st15⟩ := X14.virtualBack hx (y := (⟨"java/lang/AbstractStringBuilder", "isLatin1", "()Z"⟩ : MethodName)) (z := (⟨"java/lang/AbstractStringBuilder", "isLatin1", "()Z"⟩ : MethodName)) hown (mvT hZ (hw _ (List.mem_of_getElem? (i := 153) rfl))) (mvT hZ (hw _ (List.mem_of_getElem? (i := 154) rfl))) (notFace_of_selects (args := #[]) (mvT hZ w_156)) (mvT hZ w_156) (mvT hZ (hw _ (List.mem_of_getElem? (i := 155) rfl))) (by decide) (backOf (W := 0) (rmABL1 l Z a0 hw [] sb zc h0 n0 Z0 P6 OLD P11 hzc) hZ (hw _ (List.mem_of_getElem? (i := 157) rfl)) w_49 (by decide) (by decide)) q15a q15c (g := (mkF m 16 #[.val (.ref a1), .val (.ref sb), .val .null, .val (.ref vb), .val (.int cn)] [(.ref sb)])) rfl (by rw [hml]; rfl) (Steps.refl _) (argsL := []) (rest := []) (lenOf pd__28_29Z rfl) rfl (by show 2 * 0 + _ ≤ _; exact Nat.le_of_eq rfl) (hb hby d25_16) (fun _ _ => ⟨rfl, e14, (by decide : 0 + 0 ≤ _), (by decide : 0 + 0 ≤ _)⟩)
  dsimp only [Pt.U, Pt.locs, Pt.cells, Pt.slots] at X15 l15 y15 z15 st15 hQ15
  rw [l15, y15, z15] at X15
  obtain ⟨rfl, Nq15, e15⟩ := hQ15
  have N15 := Fr.app N14 Nq15
  refine own_goT st15 ?_
  show ∃ t o, Steps p.tables e below (T15.setTop (mkF m 19 #[.val (.ref a1), .val (.ref sb), .val .null, .val (.ref vb), .val (.int cn)] [(.int (1 : Int32))])) t ∧ _
  refine own_go (fun _ => XS.ifNo X15.here hx rfl (hb hby d25_19) rfl ((if0 _ _).trans (feq (by decide : ¬ ((1 : Int32) = (0 : Int32)))).1)) ?_
  refine own_go (fun _ => XS.aloadN X15.here hx rfl (hb hby d25_22) rfl rfl) ?_
  refine own_go (fun _ => XS.iconst X15.here hx rfl (hb hby d25_23)) ?_
  obtain ⟨T16, h16, X16, e16, W16, st16⟩ := putFN X15 hx hZ hown (hw _ (List.mem_of_getElem? (i := 26) rfl)) Via.refl e15 P3 P1 (Or.inr ⟨w_27, rfl, hnm⟩) w_1 (ty := .byte) (v' := (.int (0 : Int32).toInt8.toInt32)) (by decide) rfl (fits_nar_byte _) (g := (mkF m 24 #[.val (.ref a1), .val (.ref sb), .val .null, .val (.ref vb), .val (.int cn)] [(.int (0 : Int32)), (.ref a1)])) rfl rfl (hb hby d25_24)
  refine own_go st16 ?_
  have le_16 : h0.size ≤ h16.size := Nat.le_of_eq W16.size.symm
  have K16 : Keep h0 h16 [a1] := Keep.wr (Keep.refl h0 [a1]) W16 (Or.inl (List.mem_of_getElem? (i := 0) rfl))
  have N16 := Fr.snoc X16 N15 ga
  have Fw16 := Fld.same W16 P3
  have Fcz : Fld Z h16 a1 "java/lang/String" "coder" "B" (.int (0 : Int32)) := Fw16
  refine own_go (fun _ => XS.aloadN X16.here hx rfl (hb hby d25_27) rfl rfl) ?_
  refine own_go (fun _ => XS.aloadN X16.here hx rfl (hb hby d25_28) rfl rfl) ?_
  refine own_go (fun _ => XS.iconst X16.here hx rfl (hb hby d25_29)) ?_
  refine own_go (fun _ => XS.iload X16.here hx rfl (hb hby d25_30) rfl) ?_
  show ∃ t o, Steps p.tables e below (T16.setTop (mkF m 32 #[.val (.ref a1), .val (.ref sb), .val .null, .val (.ref vb), .val (.int cn)] [(.int cn), (.int (0 : Int32)), (.ref vb), (.ref a1)])) t ∧ _
  have F17 := (Exa.wr W16 P8)
  have F18 := (Arv.other P9 W16 ha2)
  have F19 := (Old.wr OLD W16 ga)
  have zl20 : n0 ≤ h16.size := by omega
  obtain ⟨_, _, ⟨T21, L21, k21, n21⟩, -, X21, ⟨Lc21, hQ21, l21, y21, z21⟩, st21⟩ := Jvm.LawKit.callS X16 hx (y := (⟨"java/util/Arrays", "copyOfRange", "([BII)[B"⟩ : MethodName)) hown (mvT hZ (hw _ (List.mem_of_getElem? (i := 158) rfl))) (mvT hZ (hw _ (List.mem_of_getElem? (i := 159) rfl))) (mvT hZ w_102) (mvT hZ w_160) (by decide) (backOf (W := 1) (rmCr l Z a0 hw [] vb kv cp us cn h16 n0 zl20 F17 F18 F19 f2 hcp) hZ w_160 w_102 (by decide) (by decide)) (g := (mkF m 32 #[.val (.ref a1), .val (.ref sb), .val .null, .val (.ref vb), .val (.int cn)] [(.int cn), (.int (0 : Int32)), (.ref vb), (.ref a1)])) rfl (by rw [hml]; rfl) (argsL := [(.ref vb), (.int (0 : Int32)), (.int cn)]) (rest := [(.ref a1)]) (lenOf pd__28_5bBII_29_5bB rfl) rfl (by show 2 * 0 + _ ≤ _; exact Nat.le_of_eq rfl) (hb hby d25_32) (fun _ _ => ⟨rfl, e16, (by decide : 0 + 1 ≤ _), (by decide : 0 + 142 ≤ _)⟩)
  dsimp only [Pt.U, Pt.locs, Pt.cells, Pt.slots] at X21 l21 y21 z21 st21 hQ21
  rw [l21, y21, z21] at X21
  obtain ⟨nb_21, kn_21, rfl, Nq21, Kp21, G21_0, H21_0⟩ := hQ21
  have N21 := Fr.app N16 Nq21
  refine own_go st21 ?_
  have le_21 : h16.size ≤ T21.heap.size := Kp21.1
  have K21 : Keep h0 T21.heap [a1] := Keep.trans K16 Kp21 all0
  have lt_nb_21 : nb_21 < T21.heap.size := (G21_0).lt
  have F22 := (Exa.keep (Exa.wr W16 P1) Kp21)
  have F23 := (Fld.keep (Fld.other W16 P2 (Or.inr (slot_ne (a0 := a0) (Or.inr w_29) (Or.inr w_27) (by decide) (t := (.array .byte)) (t' := .byte) (by decide) (by decide)))) Kp21 nin0)
  obtain ⟨T24, h24, X24, e24, W24, st24⟩ := putF X21 hx hZ hown (host := "") (Or.inl (hw _ (List.mem_of_getElem? (i := 28) rfl))) Via.refl rfl F23 F22 (Or.inr ⟨w_29, rfl, hnm⟩) w_1 (ty := (.array .byte)) (by decide) rfl rfl (g := (mkF m 35 #[.val (.ref a1), .val (.ref sb), .val .null, .val (.ref vb), .val (.int cn)] [(.ref nb_21), (.ref a1)])) rfl rfl (hb hby d25_35)
  refine own_go st24 ?_
  have le_24 : T21.heap.size ≤ h24.size := Nat.le_of_eq W24.size.symm
  have K24 : Keep h0 h24 [a1] := Keep.wr K21 W24 (Or.inl (List.mem_of_getElem? (i := 0) rfl))
  have N24 := Fr.snoc X24 N21 ga
  have Fw24 := Fld.same W24 F23
  refine own_go (fun _ => XS.goto X24.here hx rfl (pc0 := 38) (pc' := 97) rfl (hb hby d25_38) (by decide) (by decide)) ?_
  show ∃ t o, Steps p.tables e below (T24.setTop (mkF m 97 #[.val (.ref a1), .val (.ref sb), .val .null, .val (.ref vb), .val (.int cn)] [])) t ∧ _
  have F25 := (Exa.wr W24 F22)
  have F26 := (Fld.other W24 (Fld.keep Fcz Kp21 nin0) (Or.inr (slot_ne (a0 := a0) (Or.inr w_27) (Or.inr w_29) (by decide) (t := .byte) (t' := (.array .byte)) (by decide) (by decide))))
  have ne27 : nb_21 ≠ a1 := own_ne (by omega)
  have F28 := (Arv.other G21_0 W24 ne27)
  obtain ⟨fs, hr, hrun, hended, hW, hsame⟩ := X24.leave (v := none) (fun _ => rfl)
  refine ⟨_, _, ?_, hrun, hended, _, _, rfl, ?_, ⟨_, rfl⟩, hW, hsame.mono (by decide) (by decide)⟩
  · exact X24.returnOut hx Bd.returns (hb hby d25_97) hr
  · show Q_rmST2 Z _ _ _ _ _ _ _ _ h0 n0 _ T24.heap _
    rw [e24]
    exact ⟨nb_21, kn_21, rfl, N24, K24, F25, Fw24, F26, F28, (by omega)⟩
theorem ef_rmST1 (m : MethodId) (x0 : Nat) (x1 : Nat) : entryFrame m #[(.ref x0), (.ref x1)] 2 = mkF m 0 #[.val (.ref x0), .val (.ref x1)] [] := by first | (simp [entryFrame, mkF, argsToLocals, Value.category]; done) | rfl
theorem d24_0 : decode jdk_42_method_53_code 0 = .ok (.aload_n 0, 1) := by decide +kernel
theorem d24_1 : decode jdk_42_method_53_code 1 = .ok (.aload_n 1, 1) := by decide +kernel
theorem d24_2 : decode jdk_42_method_53_code 2 = .ok (.aconst_null, 1) := by decide +kernel
theorem d24_3 : decode jdk_42_method_53_code 3 = .ok (.invokespecial 489, 3) := by decide +kernel
theorem pd_h0c2c8006 : parseMethodDescriptor "(Ljava/lang/AbstractStringBuilder;Ljava/lang/Void;)V" = some ⟨[(.object "java/lang/AbstractStringBuilder"), (.object "java/lang/Void")], none⟩ := by decide +kernel
theorem d24_6 : decode jdk_42_method_53_code 6 = .ok (.return_, 1) := by decide +kernel
def Q_rmST1 (Z : State) (a1 : Nat) (sb : Nat) (vb : Nat) (kv : ClassId) (cp : Int32) (us : List Value) (cn : Int32) (zc : Int32) (h0 : Heap) (n0 : Nat) (v : Option Value) (h : Heap) (L : List Loc) : Prop := ∃ (tb : Nat), ∃ (kb : ClassId), v = none ∧ Fr n0 L ∧ Keep h0 h [a1] ∧ Exa Z h a1 "java/lang/String" ∧ Fld Z h a1 "java/lang/String" "value" "[B" (.ref tb) ∧ Fld Z h a1 "java/lang/String" "coder" "B" (.int (0 : Int32)) ∧ Arv Z h tb kb .byte cn us (.int (0 : Int32)) ∧ (h0.size ≤ tb)
set_option maxRecDepth 65536 in
set_option maxHeartbeats 40000000 in
theorem rmST1 (l : Launch) (Z : State) (a0 : Array Value) (hw : ∀ d ∈ tables_1, d.before a0 Z = true) (ws : List Jvm.Cond) (a1 : Nat) (sb : Nat) (vb : Nat) (kv : ClassId) (cp : Int32) (us : List Value) (cn : Int32) (zc : Int32) (h0 : Heap) (n0 : Nat) (Z0 : n0 ≤ h0.size) (P1 : Exa Z h0 a1 "java/lang/String") (P2 : Fld Z h0 a1 "java/lang/String" "value" "[B" .null) (P3 : Fld Z h0 a1 "java/lang/String" "coder" "B" (.int (0 : Int32))) (P4 : Exa Z h0 sb "java/lang/StringBuilder") (P5 : Fld Z h0 sb "java/lang/AbstractStringBuilder" "value" "[B" (.ref vb)) (P6 : Fld Z h0 sb "java/lang/AbstractStringBuilder" "coder" "B" (.int (0 : Int32))) (P7 : Fld Z h0 sb "java/lang/AbstractStringBuilder" "count" "I" (.int cn)) (P8 : Exa Z h0 vb "[B") (P9 : Arv Z h0 vb kv .byte cp us (.int (0 : Int32))) (P10 : Fld Z h0 sb "java/lang/AbstractStringBuilder" "maybeLatin1" "Z" (.int (0 : Int32))) (OLD : Old Z n0 h0) (P11 : Sta Z Z.heap "java/lang/String" "COMPACT_STRINGS" "Z" (.int zc)) (hzc : ¬ (zc = (0 : Int32))) (f2 : own_fit us cn) (hcp : own_cap us cp) (ga : n0 ≤ a1) (ha2 : vb ≠ a1) :
    MetFree l (⟨"java/lang/String", "<init>", "(Ljava/lang/StringBuilder;)V"⟩ : MethodName) (head1 (Jvm.Cond.code (⟨"java/lang/String", "<init>", "(Ljava/lang/StringBuilder;)V"⟩ : MethodName) jdk_42_method_53_code 2 none :: ws) ({ frames := 4, cells := 1, slots := 142, locals := 65 } : Room)) (fun a U => a = #[(.ref a1), (.ref sb)] ∧ Z.Warmed39 U.vm ∧ U.heap = h0) (fun _ _ _ _ _ => True) (fun _ U o U' => ∃ v L, o = .returned v ∧ Q_rmST1 Z a1 sb vb kv cp us cn zc h0 n0 v U'.heap L ∧ FrameEnd U o U' L ({ frames := 4, cells := 1, slots := 142, locals := 65 } : Room).cells ({ frames := 4, cells := 1, slots := 142, locals := 65 } : Room).slots) := by
  refine MetFree.of_bodySF (plainFor_of_name pn_java_lang_String) hisR ?_
  intro p e s m args below meth c s₁ Bd hml0 hP hK
  obtain ⟨rfl, hZ, hh⟩ := hP
  have hx := Bd.exec
  have hby := Bd.bytes
  have hml : c.maxLocals = 2 := hml0
  have hown : s.vm.findClass "java/lang/String" = some m.cls := findClass_of_methodNamed Bd.named
  have hnm := (name_of_methodNamed Bd.named Bd.method).1
  have X0 : Stand p l e ({ frames := 4, cells := 1, slots := 142, locals := 65 } : Room) s m #[(.ref a1), (.ref sb)] below meth c s₁ [] 0 0 := Stand.of_body Bd
  have e0 : s₁.heap = h0 := by rw [← hh, Bd.state]; rfl
  have N0 := Fr.nil n0
  have pre0 : ∀ t, Steps p.tables e below (s₁.setTop (mkF m 0 #[.val (.ref a1), .val (.ref sb)] [])) t → Steps p.tables e below (s₁.setTop (entryFrame m #[(.ref a1), (.ref sb)] 2)) t := fun t k => castTop (ef_rmST1 m a1 sb) k
  have w_139 := hw _ (List.mem_of_getElem? (i := 139) rfl)
  have oz := OLD.1
  have lt_a1 : a1 < h0.size := P1.lt
  have lt_sb : sb < h0.size := P4.lt
  have lt_vb : vb < h0.size := P8.lt
  refine own_go (B := s₁.setTop (mkF m 0 #[.val (.ref a1), .val (.ref sb)] [])) pre0 ?_
  show ∃ t o, Steps p.tables e below (s₁.setTop (mkF m 0 #[.val (.ref a1), .val (.ref sb)] [])) t ∧ _
  refine own_go (fun _ => XS.aloadN X0.here hx rfl (hb hby d24_0) rfl rfl) ?_
  refine own_go (fun _ => XS.aloadN X0.here hx rfl (hb hby d24_1) rfl rfl) ?_
  refine own_go (fun _ => XS.aconstNull X0.here hx rfl (hb hby d24_2)) ?_
  show ∃ t o, Steps p.tables e below (s₁.setTop (mkF m 3 #[.val (.ref a1), .val (.ref sb)] [.null, (.ref sb), (.ref a1)])) t ∧ _
  obtain ⟨_, _, ⟨T12, L12, k12, n12⟩, -, X12, ⟨Lc12, hQ12, l12, y12, z12⟩, st12⟩ := X0.specialBack hx (y := (⟨"java/lang/String", "<init>", "(Ljava/lang/AbstractStringBuilder;Ljava/lang/Void;)V"⟩ : MethodName)) rfl hown (mvT hZ (hw _ (List.mem_of_getElem? (i := 137) rfl))) (mvT hZ (hw _ (List.mem_of_getElem? (i := 138) rfl))) (mvT hZ w_139) (by decide) (backOf (W := 0) (rmST2 l Z a0 hw [] a1 sb vb kv cp us cn zc h0 n0 Z0 P1 P2 P3 P4 P5 P6 P7 P8 P9 P10 OLD P11 hzc f2 hcp ga ha2) hZ w_139 (hw _ (List.mem_of_getElem? (i := 2) rfl)) (by decide) (by decide)) (g := (mkF m 3 #[.val (.ref a1), .val (.ref sb)] [.null, (.ref sb), (.ref a1)])) rfl (by rw [hml]; rfl) (Steps.refl _) (a := a1) (argsL := [(.ref sb), .null]) (rest := []) (lenOf pd_h0c2c8006 rfl) rfl (by show 2 * 0 + _ ≤ _; exact Nat.le_of_eq rfl) (hb hby d24_3) (fun _ _ => ⟨rfl, e0, (by decide : 0 + 1 ≤ _), (by decide : 0 + 142 ≤ _)⟩)
  dsimp only [Pt.U, Pt.locs, Pt.cells, Pt.slots] at X12 l12 y12 z12 st12 hQ12
  rw [l12, y12, z12] at X12
  obtain ⟨tb_12, kb_12, rfl, Nq12, Kp12, G12_0, G12_1, G12_2, G12_3, H12_0⟩ := hQ12
  have N12 := Fr.app N0 Nq12
  refine own_goT st12 ?_
  have le_12 : h0.size ≤ T12.heap.size := Kp12.1
  have K12 : Keep h0 T12.heap [a1] := Keep.trans (Keep.refl h0 [a1]) Kp12 (allS (Or.inl (List.mem_of_getElem? (i := 0) rfl)) all0)
  have lt_tb_12 : tb_12 < T12.heap.size := (G12_3).lt
  show ∃ t o, Steps p.tables e below (T12.setTop (mkF m 6 #[.val (.ref a1), .val (.ref sb)] [])) t ∧ _
  obtain ⟨fs, hr, hrun, hended, hW, hsame⟩ := X12.leave (v := none) (fun _ => rfl)
  refine ⟨_, _, ?_, hrun, hended, _, _, rfl, ?_, ⟨_, rfl⟩, hW, hsame.mono (by decide) (by decide)⟩
  · exact X12.returnOut hx Bd.returns (hb hby d24_6) hr
  · show Q_rmST1 Z _ _ _ _ _ _ _ _ h0 n0 _ T12.heap _
    exact ⟨tb_12, kb_12, rfl, N12, K12, G12_0, G12_1, G12_2, G12_3, H12_0⟩
theorem ef_rmTs (m : MethodId) (x0 : Nat) : entryFrame m #[(.ref x0)] 1 = mkF m 0 #[.val (.ref x0)] [] := by first | (simp [entryFrame, mkF, argsToLocals, Value.category]; done) | rfl
theorem d23_0 : decode jdk_67_method_42_code 0 = .ok (.new 18, 3) := by decide +kernel
theorem d23_3 : decode jdk_67_method_42_code 3 = .ok (.dup, 1) := by decide +kernel
theorem d23_4 : decode jdk_67_method_42_code 4 = .ok (.aload_n 0, 1) := by decide +kernel
theorem d23_5 : decode jdk_67_method_42_code 5 = .ok (.invokespecial 137, 3) := by decide +kernel
theorem pd__28Ljava_2flang_2fStringBuilder_3b_29V : parseMethodDescriptor "(Ljava/lang/StringBuilder;)V" = some ⟨[(.object "java/lang/StringBuilder")], none⟩ := by decide +kernel
theorem d23_8 : decode jdk_67_method_42_code 8 = .ok (.areturn, 1) := by decide +kernel
def Q_rmTs (Z : State) (sb : Nat) (vb : Nat) (kv : ClassId) (cp : Int32) (us : List Value) (cn : Int32) (zc : Int32) (h0 : Heap) (n0 : Nat) (v : Option Value) (h : Heap) (L : List Loc) : Prop := ∃ (b : Nat), ∃ (tb : Nat), ∃ (kb : ClassId), v = some (.ref b) ∧ Fr n0 L ∧ Keep h0 h [] ∧ Exa Z h b "java/lang/String" ∧ Fld Z h b "java/lang/String" "value" "[B" (.ref tb) ∧ Fld Z h b "java/lang/String" "coder" "B" (.int (0 : Int32)) ∧ Arv Z h tb kb .byte cn us (.int (0 : Int32)) ∧ (h0.size ≤ b) ∧ (h0.size ≤ tb)
set_option maxRecDepth 65536 in
set_option maxHeartbeats 40000000 in
theorem rmTs (l : Launch) (Z : State) (a0 : Array Value) (hw : ∀ d ∈ tables_1, d.before a0 Z = true) (ws : List Jvm.Cond) (sb : Nat) (vb : Nat) (kv : ClassId) (cp : Int32) (us : List Value) (cn : Int32) (zc : Int32) (h0 : Heap) (n0 : Nat) (Z0 : n0 ≤ h0.size) (P1 : Exa Z h0 sb "java/lang/StringBuilder") (P2 : Fld Z h0 sb "java/lang/AbstractStringBuilder" "value" "[B" (.ref vb)) (P3 : Fld Z h0 sb "java/lang/AbstractStringBuilder" "coder" "B" (.int (0 : Int32))) (P4 : Fld Z h0 sb "java/lang/AbstractStringBuilder" "count" "I" (.int cn)) (P5 : Exa Z h0 vb "[B") (P6 : Arv Z h0 vb kv .byte cp us (.int (0 : Int32))) (P7 : Fld Z h0 sb "java/lang/AbstractStringBuilder" "maybeLatin1" "Z" (.int (0 : Int32))) (OLD : Old Z n0 h0) (P8 : Sta Z Z.heap "java/lang/String" "COMPACT_STRINGS" "Z" (.int zc)) (hzc : ¬ (zc = (0 : Int32))) (f2 : own_fit us cn) (hcp : own_cap us cp) :
    MetFree l (⟨"java/lang/StringBuilder", "toString", "()Ljava/lang/String;"⟩ : MethodName) (head1 (Jvm.Cond.code (⟨"java/lang/StringBuilder", "toString", "()Ljava/lang/String;"⟩ : MethodName) jdk_67_method_42_code 1 (some (.object "java/lang/String")) :: ws) ({ frames := 5, cells := 2, slots := 146, locals := 79 } : Room)) (fun a U => a = #[(.ref sb)] ∧ Z.Warmed39 U.vm ∧ U.heap = h0) (fun _ _ _ _ _ => True) (fun _ U o U' => ∃ v L, o = .returned v ∧ Q_rmTs Z sb vb kv cp us cn zc h0 n0 v U'.heap L ∧ FrameEnd U o U' L ({ frames := 5, cells := 2, slots := 146, locals := 79 } : Room).cells ({ frames := 5, cells := 2, slots := 146, locals := 79 } : Room).slots) := by
  refine MetFree.of_bodySF (plainFor_of_name pn_java_lang_StringBuilder) hisR ?_
  intro p e s m args below meth c s₁ Bd hml0 hP hK
  obtain ⟨rfl, hZ, hh⟩ := hP
  have hx := Bd.exec
  have hby := Bd.bytes
  have hml : c.maxLocals = 1 := hml0
  have hown : s.vm.findClass "java/lang/StringBuilder" = some m.cls := findClass_of_methodNamed Bd.named
  have hnm := (name_of_methodNamed Bd.named Bd.method).1
  have X0 : Stand p l e ({ frames := 5, cells := 2, slots := 146, locals := 79 } : Room) s m #[(.ref sb)] below meth c s₁ [] 0 0 := Stand.of_body Bd
  have e0 : s₁.heap = h0 := by rw [← hh, Bd.state]; rfl
  have N0 := Fr.nil n0
  have pre0 : ∀ t, Steps p.tables e below (s₁.setTop (mkF m 0 #[.val (.ref sb)] [])) t → Steps p.tables e below (s₁.setTop (entryFrame m #[(.ref sb)] 1)) t := fun t k => castTop (ef_rmTs m sb) k
  have w_136 := hw _ (List.mem_of_getElem? (i := 136) rfl)
  have w_2 := hw _ (List.mem_of_getElem? (i := 2) rfl)
  have oz := OLD.1
  have lt_sb : sb < h0.size := P1.lt
  have lt_vb : vb < h0.size := P5.lt
  refine own_go (B := s₁.setTop (mkF m 0 #[.val (.ref sb)] [])) pre0 ?_
  show ∃ t o, Steps p.tables e below (s₁.setTop (mkF m 0 #[.val (.ref sb)] [])) t ∧ _
  obtain ⟨T9, h9, X9, e9, E9, A9, D9, -, st9⟩ := newO X0 hx hZ hown (hw _ (List.mem_of_getElem? (i := 133) rfl)) (hw _ (List.mem_of_getElem? (i := 1) rfl)) w_2 e0 (g := (mkF m 0 #[.val (.ref sb)] [])) rfl (hb hby d23_0) (by decide) (by decide)
  obtain ⟨b9, g9⟩ : ∃ z, z = h0.size := ⟨_, rfl⟩
  rw [← g9] at A9 D9 st9
  refine own_go st9 ?_
  have le_9 : h0.size ≤ h9.size := E9.1
  have lt_b9 : b9 < h9.size := A9.lt
  have F_coder_b9 : Fld Z h9 b9 "java/lang/String" "coder" "B" (.int (0 : Int32)) := D9 (Or.inr (hw _ (List.mem_of_getElem? (i := 27) rfl))) (ty := .byte) (by decide)
  have F_value_b9 : Fld Z h9 b9 "java/lang/String" "value" "[B" .null := D9 (Or.inr (hw _ (List.mem_of_getElem? (i := 29) rfl))) (ty := (.array .byte)) (by decide)
  have K9 : Keep h0 h9 [] := Keep.ext (Keep.refl h0 []) E9
  refine own_go (fun _ => XS.dup X9.here hx rfl (hb hby d23_3) rfl rfl) ?_
  refine own_go (fun _ => XS.aloadN X9.here hx rfl (hb hby d23_4) rfl rfl) ?_
  show ∃ t o, Steps p.tables e below (T9.setTop (mkF m 5 #[.val (.ref sb)] [(.ref sb), (.ref b9), (.ref b9)])) t ∧ _
  have F10 := (Exa.ext E9 P1)
  have F11 := (Fld.ext E9 P2)
  have F12 := (Fld.ext E9 P3)
  have F13 := (Fld.ext E9 P4)
  have F14 := (Exa.ext E9 P5)
  have F15 := (P6.ext E9)
  have F16 := (Fld.ext E9 P7)
  have F17 := (OLD.ext E9)
  have ge18 : n0 ≤ b9 := by omega
  have ne19 : vb ≠ b9 := own_ne (by omega)
  have zl20 : n0 ≤ h9.size := by omega
  obtain ⟨_, _, ⟨T21, L21, k21, n21⟩, -, X21, ⟨Lc21, hQ21, l21, y21, z21⟩, st21⟩ := X9.specialBack hx (y := (⟨"java/lang/String", "<init>", "(Ljava/lang/StringBuilder;)V"⟩ : MethodName)) rfl hown (mvT hZ (hw _ (List.mem_of_getElem? (i := 134) rfl))) (mvT hZ (hw _ (List.mem_of_getElem? (i := 135) rfl))) (mvT hZ w_136) (by decide) (backOf (W := 1) (rmST1 l Z a0 hw [] b9 sb vb kv cp us cn zc h9 n0 zl20 A9 F_value_b9 F_coder_b9 F10 F11 F12 F13 F14 F15 F16 F17 P8 hzc f2 hcp ge18 ne19) hZ w_136 w_2 (by decide) (by decide)) (g := (mkF m 5 #[.val (.ref sb)] [(.ref sb), (.ref b9), (.ref b9)])) rfl (by rw [hml]; rfl) (Steps.refl _) (a := b9) (argsL := [(.ref sb)]) (rest := [(.ref b9)]) (lenOf pd__28Ljava_2flang_2fStringBuilder_3b_29V rfl) rfl (by show 2 * 0 + _ ≤ _; exact Nat.le_of_eq rfl) (hb hby d23_5) (fun _ _ => ⟨rfl, e9, (by decide : 1 + 1 ≤ _), (by decide : 4 + 142 ≤ _)⟩)
  dsimp only [Pt.U, Pt.locs, Pt.cells, Pt.slots] at X21 l21 y21 z21 st21 hQ21
  rw [l21, y21, z21] at X21
  obtain ⟨tb_21, kb_21, rfl, Nq21, Kp21, G21_0, G21_1, G21_2, G21_3, H21_0⟩ := hQ21
  have N21 := Fr.app N0 Nq21
  refine own_goT st21 ?_
  have le_21 : h9.size ≤ T21.heap.size := Kp21.1
  have sz22 : h0.size ≤ b9 := by omega
  have K21 : Keep h0 T21.heap [] := Keep.trans K9 Kp21 (allS (Or.inr sz22) all0)
  have lt_tb_21 : tb_21 < T21.heap.size := (G21_3).lt
  show ∃ t o, Steps p.tables e below (T21.setTop (mkF m 8 #[.val (.ref sb)] [(.ref b9)])) t ∧ _
  obtain ⟨fs, hr, hrun, hended, hW, hsame⟩ := X21.leave (v := some (.ref b9)) (fun h => by rw [Bd.returns] at h; cases h)
  refine ⟨_, _, ?_, hrun, hended, _, _, rfl, ?_, ⟨_, rfl⟩, hW, hsame.mono (by decide) (by decide)⟩
  · jvm_step X21.here [X21.here.top, hx, (hb hby d23_8), X21.method', Bd.returns, Value.isRef, FieldType.isReference]
    first | (intro acts; rw [hr _ acts rfl rfl rfl]) | rw [hr _ _ rfl rfl rfl]
    exact Steps.refl _
  · show Q_rmTs Z _ _ _ _ _ _ _ h0 n0 _ T21.heap _
    exact ⟨b9, tb_21, kb_21, rfl, N21, K21, G21_0, G21_1, G21_2, G21_3, (by omega), (by omega)⟩
theorem ef_rmNbl (m : MethodId) (x0 : Int32) : entryFrame m #[(.int x0)] 1 = mkF m 0 #[.val (.int x0)] [] := by first | (simp [entryFrame, mkF, argsToLocals, Value.category]; done) | rfl
theorem d40_0 : decode jdk_52_method_3_code 0 = .ok (.iload_n 0, 1) := by decide +kernel
theorem d40_1 : decode jdk_52_method_3_code 1 = .ok (.ifCond .ge 11, 3) := by decide +kernel
theorem d40_12 : decode jdk_52_method_3_code 12 = .ok (.iload_n 0, 1) := by decide +kernel
theorem d40_13 : decode jdk_52_method_3_code 13 = .ok (.ldc 20, 2) := by decide +kernel
theorem d40_15 : decode jdk_52_method_3_code 15 = .ok (.if_icmp .lt 40, 3) := by decide +kernel
theorem d40_55 : decode jdk_52_method_3_code 55 = .ok (.iload_n 0, 1) := by decide +kernel
theorem d40_56 : decode jdk_52_method_3_code 56 = .ok (.iconst 1, 1) := by decide +kernel
theorem d40_57 : decode jdk_52_method_3_code 57 = .ok (.ishl, 1) := by decide +kernel
theorem d40_58 : decode jdk_52_method_3_code 58 = .ok (.ireturn, 1) := by decide +kernel
theorem pn_java_lang_StringUTF16 : plainName "java/lang/StringUTF16" = true := by first | (simp [plainName, overriddenIn]; done) | decide +kernel
def Q_rmNbl (Z : State) (xn : Int32) (h0 : Heap) (n0 : Nat) (v : Option Value) (h : Heap) (L : List Loc) : Prop := v = some (.int (xn <<< ((1 : Int32) &&& 31))) ∧ Fr n0 L ∧ h = h0
set_option maxRecDepth 65536 in
set_option maxHeartbeats 40000000 in
theorem rmNbl (l : Launch) (Z : State) (a0 : Array Value) (hw : ∀ d ∈ tables_1, d.before a0 Z = true) (ws : List Jvm.Cond) (xn : Int32) (h0 : Heap) (n0 : Nat) (Z0 : n0 ≤ h0.size) (OLD : Old Z n0 h0) (q0 : ¬ (xn < (0 : Int32))) (q1 : xn < (1073741823 : Int32)) :
    MetFree l (⟨"java/lang/StringUTF16", "newBytesLength", "(I)I"⟩ : MethodName) (head1 (Jvm.Cond.code (⟨"java/lang/StringUTF16", "newBytesLength", "(I)I"⟩ : MethodName) jdk_52_method_3_code 1 (some .int) :: ws) ({ frames := 0, cells := 0, slots := 0, locals := 0 } : Room)) (fun a U => a = #[(.int xn)] ∧ Z.Warmed39 U.vm ∧ U.heap = h0) (fun _ _ _ _ _ => True) (fun _ U o U' => ∃ v L, o = .returned v ∧ Q_rmNbl Z xn h0 n0 v U'.heap L ∧ FrameEnd U o U' L ({ frames := 0, cells := 0, slots := 0, locals := 0 } : Room).cells ({ frames := 0, cells := 0, slots := 0, locals := 0 } : Room).slots) := by
  refine MetFree.of_bodySF (plainFor_of_name pn_java_lang_StringUTF16) hisR ?_
  intro p e s m args below meth c s₁ Bd hml0 hP hK
  obtain ⟨rfl, hZ, hh⟩ := hP
  have hx := Bd.exec
  have hby := Bd.bytes
  have hml : c.maxLocals = 1 := hml0
  have hown : s.vm.findClass "java/lang/StringUTF16" = some m.cls := findClass_of_methodNamed Bd.named
  have hnm := (name_of_methodNamed Bd.named Bd.method).1
  have X0 : Stand p l e ({ frames := 0, cells := 0, slots := 0, locals := 0 } : Room) s m #[(.int xn)] below meth c s₁ [] 0 0 := Stand.of_body Bd
  have e0 : s₁.heap = h0 := by rw [← hh, Bd.state]; rfl
  have N0 := Fr.nil n0
  have pre0 : ∀ t, Steps p.tables e below (s₁.setTop (mkF m 0 #[.val (.int xn)] [])) t → Steps p.tables e below (s₁.setTop (entryFrame m #[(.int xn)] 1)) t := fun t k => castTop (ef_rmNbl m xn) k
  have oz := OLD.1
  refine own_go (B := s₁.setTop (mkF m 0 #[.val (.int xn)] [])) pre0 ?_
  show ∃ t o, Steps p.tables e below (s₁.setTop (mkF m 0 #[.val (.int xn)] [])) t ∧ _
  refine own_go (fun _ => XS.iloadN X0.here hx rfl (hb hby d40_0) rfl) ?_
  show ∃ t o, Steps p.tables e below (s₁.setTop (mkF m 1 #[.val (.int xn)] [(.int xn)])) t ∧ _
  refine own_go (fun _ => XS.ifYes X0.here hx rfl (pc0 := 1) (pc' := 12) rfl (hb hby d40_1) rfl ((if0 _ _).trans (flt q0).2.1) (by decide) (by decide)) ?_
  refine own_go (fun _ => XS.iloadN X0.here hx rfl (hb hby d40_12) rfl) ?_
  refine own_go (fun _ => X0.ldcInt hx hown (mvT hZ (hw _ (List.mem_of_getElem? (i := 216) rfl))) (g := (mkF m 13 #[.val (.int xn)] [(.int xn)])) rfl (hb hby d40_13) _) ?_
  show ∃ t o, Steps p.tables e below (s₁.setTop (mkF m 15 #[.val (.int xn)] [(.int (1073741823 : Int32)), (.int xn)])) t ∧ _
  refine own_go (fun _ => XS.icmpYes X0.here hx rfl (pc0 := 15) (pc' := 55) rfl (hb hby d40_15) rfl (tlt q1).1 (by decide) (by decide)) ?_
  refine own_go (fun _ => XS.iloadN X0.here hx rfl (hb hby d40_55) rfl) ?_
  refine own_go (fun _ => XS.iconst X0.here hx rfl (hb hby d40_56)) ?_
  refine own_go (fun _ => XS.ishl X0.here hx rfl (hb hby d40_57) rfl) ?_
  show ∃ t o, Steps p.tables e below (s₁.setTop (mkF m 58 #[.val (.int xn)] [(.int (xn <<< ((1 : Int32) &&& 31)))])) t ∧ _
  obtain ⟨fs, hr, hrun, hended, hW, hsame⟩ := X0.leave (v := some (.int (xn <<< ((1 : Int32) &&& 31)))) (fun h => by rw [Bd.returns] at h; cases h)
  refine ⟨_, _, ?_, hrun, hended, _, _, rfl, ?_, ⟨_, rfl⟩, hW, hsame.mono (by decide) (by decide)⟩
  · exact retI X0 hx Bd.returns (hb hby d40_58) hr
  · show Q_rmNbl Z _ h0 n0 _ s₁.heap _
    rw [e0]
    exact ⟨rfl, N0, rfl⟩
theorem ef_rmNbf (m : MethodId) (x0 : Int32) : entryFrame m #[(.int x0)] 1 = mkF m 0 #[.val (.int x0)] [] := by first | (simp [entryFrame, mkF, argsToLocals, Value.category]; done) | rfl
theorem d39_0 : decode jdk_52_method_2_code 0 = .ok (.iload_n 0, 1) := by decide +kernel
theorem d39_1 : decode jdk_52_method_2_code 1 = .ok (.invokestatic 11, 3) := by decide +kernel
theorem d39_4 : decode jdk_52_method_2_code 4 = .ok (.newarray .byte, 2) := by decide +kernel
theorem d39_6 : decode jdk_52_method_2_code 6 = .ok (.areturn, 1) := by decide +kernel
def Q_rmNbf (Z : State) (xn : Int32) (h0 : Heap) (n0 : Nat) (v : Option Value) (h : Heap) (L : List Loc) : Prop := ∃ (nb : Nat), ∃ (kn : ClassId), ∃ (n2 : Int32), v = some (.ref nb) ∧ Fr n0 L ∧ Keep h0 h [] ∧ Exa Z h nb "[B" ∧ Arv Z h nb kn .byte n2 [] (.int (0 : Int32)) ∧ (n2.toInt = 2 * xn.toInt) ∧ (h0.size ≤ nb)
set_option maxRecDepth 65536 in
set_option maxHeartbeats 40000000 in
theorem rmNbf (l : Launch) (Z : State) (a0 : Array Value) (hw : ∀ d ∈ tables_1, d.before a0 Z = true) (ws : List Jvm.Cond) (xn : Int32) (h0 : Heap) (n0 : Nat) (Z0 : n0 ≤ h0.size) (OLD : Old Z n0 h0) (hxn : 0 ≤ xn.toInt ∧ xn.toInt ≤ 34) :
    MetFree l (⟨"java/lang/StringUTF16", "newBytesFor", "(I)[B"⟩ : MethodName) (head1 (Jvm.Cond.code (⟨"java/lang/StringUTF16", "newBytesFor", "(I)[B"⟩ : MethodName) jdk_52_method_2_code 1 (some (.array .byte)) :: ws) ({ frames := 1, cells := 1, slots := 68, locals := 12 } : Room)) (fun a U => a = #[(.int xn)] ∧ Z.Warmed39 U.vm ∧ U.heap = h0) (fun _ _ _ _ _ => True) (fun _ U o U' => ∃ v L, o = .returned v ∧ Q_rmNbf Z xn h0 n0 v U'.heap L ∧ FrameEnd U o U' L ({ frames := 1, cells := 1, slots := 68, locals := 12 } : Room).cells ({ frames := 1, cells := 1, slots := 68, locals := 12 } : Room).slots) := by
  refine MetFree.of_bodySF (plainFor_of_name pn_java_lang_StringUTF16) hisR ?_
  intro p e s m args below meth c s₁ Bd hml0 hP hK
  obtain ⟨rfl, hZ, hh⟩ := hP
  have hx := Bd.exec
  have hby := Bd.bytes
  have hml : c.maxLocals = 1 := hml0
  have hown : s.vm.findClass "java/lang/StringUTF16" = some m.cls := findClass_of_methodNamed Bd.named
  have hnm := (name_of_methodNamed Bd.named Bd.method).1
  have X0 : Stand p l e ({ frames := 1, cells := 1, slots := 68, locals := 12 } : Room) s m #[(.int xn)] below meth c s₁ [] 0 0 := Stand.of_body Bd
  have e0 : s₁.heap = h0 := by rw [← hh, Bd.state]; rfl
  have N0 := Fr.nil n0
  have pre0 : ∀ t, Steps p.tables e below (s₁.setTop (mkF m 0 #[.val (.int xn)] [])) t → Steps p.tables e below (s₁.setTop (entryFrame m #[(.int xn)] 1)) t := fun t k => castTop (ef_rmNbf m xn) k
  have w_17 := hw _ (List.mem_of_getElem? (i := 17) rfl)
  have w_215 := hw _ (List.mem_of_getElem? (i := 215) rfl)
  have oz := OLD.1
  refine own_go (B := s₁.setTop (mkF m 0 #[.val (.int xn)] [])) pre0 ?_
  show ∃ t o, Steps p.tables e below (s₁.setTop (mkF m 0 #[.val (.int xn)] [])) t ∧ _
  refine own_go (fun _ => XS.iloadN X0.here hx rfl (hb hby d39_0) rfl) ?_
  show ∃ t o, Steps p.tables e below (s₁.setTop (mkF m 1 #[.val (.int xn)] [(.int xn)])) t ∧ _
  obtain ⟨_, _, ⟨T1, L1, k1, n1⟩, -, X1, ⟨Lc1, hQ1, l1, y1, z1⟩, st1⟩ := Jvm.LawKit.callS X0 hx (y := (⟨"java/lang/StringUTF16", "newBytesLength", "(I)I"⟩ : MethodName)) hown (mvT hZ (hw _ (List.mem_of_getElem? (i := 213) rfl))) (mvT hZ (hw _ (List.mem_of_getElem? (i := 214) rfl))) (mvT hZ w_17) (mvT hZ w_215) (by decide) (backOf (W := 0) (rmNbl l Z a0 hw [] xn h0 n0 Z0 OLD ((own_ilt hxn).1 : ¬ (xn < (0 : Int32))) ((own_ilt hxn).2 : xn < (1073741823 : Int32))) hZ w_215 w_17 (by decide) (by decide)) (g := (mkF m 1 #[.val (.int xn)] [(.int xn)])) rfl (by rw [hml]; rfl) (argsL := [(.int xn)]) (rest := []) (lenOf pd__28I_29I rfl) rfl (by show 2 * 0 + _ ≤ _; exact Nat.le_of_eq rfl) (hb hby d39_1) (fun _ _ => ⟨rfl, e0, (by decide : 0 + 0 ≤ _), (by decide : 0 + 0 ≤ _)⟩)
  dsimp only [Pt.U, Pt.locs, Pt.cells, Pt.slots] at X1 l1 y1 z1 st1 hQ1
  rw [l1, y1, z1] at X1
  obtain ⟨rfl, Nq1, e1⟩ := hQ1
  have N1 := Fr.app N0 Nq1
  refine own_go st1 ?_
  show ∃ t o, Steps p.tables e below (T1.setTop (mkF m 4 #[.val (.int xn)] [(.int (xn <<< ((1 : Int32) &&& 31)))])) t ∧ _
  obtain ⟨T2, h2, k2, X2, e2, E2, A2, Q2, st2⟩ := newPE (aty := .byte) X1 hx hZ (hw _ (List.mem_of_getElem? (i := 19) rfl)) e1 (g := (mkF m 4 #[.val (.int xn)] [(.int (xn <<< ((1 : Int32) &&& 31)))])) rfl (hb hby d39_4) rfl (own_nb hxn).1 (cap := 68) (own_nb hxn).2 (by decide) (by decide) (by decide) (ad := "[B") rfl
  obtain ⟨b2, g2⟩ : ∃ z, z = h0.size := ⟨_, rfl⟩
  rw [← g2] at A2 Q2 st2
  refine own_go st2 ?_
  have le_2 : h0.size ≤ h2.size := E2.1
  have lt_b2 : b2 < h2.size := A2.lt
  have V_b2 : Arv Z h2 b2 k2 .byte (xn <<< ((1 : Int32) &&& 31)) [] (.int (0 : Int32)) := Arv.new A2 (own_nb hxn).1
  have K2 : Keep h0 h2 [] := Keep.ext (Keep.refl h0 []) E2
  show ∃ t o, Steps p.tables e below (T2.setTop (mkF m 6 #[.val (.int xn)] [(.ref b2)])) t ∧ _
  obtain ⟨fs, hr, hrun, hended, hW, hsame⟩ := X2.leave (v := some (.ref b2)) (fun h => by rw [Bd.returns] at h; cases h)
  refine ⟨_, _, ?_, hrun, hended, _, _, rfl, ?_, ⟨_, rfl⟩, hW, hsame.mono (by decide) (by decide)⟩
  · jvm_step X2.here [X2.here.top, hx, (hb hby d39_6), X2.method', Bd.returns, Value.isRef, FieldType.isReference]
    first | (intro acts; rw [hr _ acts rfl rfl rfl]) | rw [hr _ _ rfl rfl rfl]
    exact Steps.refl _
  · show Q_rmNbf Z _ h0 n0 _ T2.heap _
    rw [e2]
    exact ⟨b2, k2, (xn <<< ((1 : Int32) &&& 31)), rfl, N1, K2, Q2, V_b2, (own_dbl ⟨hxn.1, by omega⟩), (by omega)⟩
theorem ef_rmPch (m : MethodId) (x0 : Nat) (x1 : Int32) (x2 : Int32) : entryFrame m #[(.ref x0), (.int x1), (.int x2)] 3 = mkF m 0 #[.val (.ref x0), .val (.int x1), .val (.int x2)] [] := by first | (simp [entryFrame, mkF, argsToLocals, Value.category]; done) | rfl
theorem d41_0 : decode jdk_52_method_4_code 0 = .ok (.getstatic 44, 3) := by decide +kernel
theorem d41_3 : decode jdk_52_method_4_code 3 = .ok (.ifCond .ne 25, 3) := by decide +kernel
theorem d41_28 : decode jdk_52_method_4_code 28 = .ok (.iload_n 1, 1) := by decide +kernel
theorem d41_29 : decode jdk_52_method_4_code 29 = .ok (.iconst 1, 1) := by decide +kernel
theorem d41_30 : decode jdk_52_method_4_code 30 = .ok (.ishl, 1) := by decide +kernel
theorem d41_31 : decode jdk_52_method_4_code 31 = .ok (.istore_n 1, 1) := by decide +kernel
theorem d41_32 : decode jdk_52_method_4_code 32 = .ok (.aload_n 0, 1) := by decide +kernel
theorem d41_33 : decode jdk_52_method_4_code 33 = .ok (.iload_n 1, 1) := by decide +kernel
theorem d41_34 : decode jdk_52_method_4_code 34 = .ok (.iinc 1 1, 3) := by decide +kernel
theorem d41_37 : decode jdk_52_method_4_code 37 = .ok (.iload_n 2, 1) := by decide +kernel
theorem d41_38 : decode jdk_52_method_4_code 38 = .ok (.getstatic 59, 3) := by decide +kernel
theorem d41_41 : decode jdk_52_method_4_code 41 = .ok (.ishr, 1) := by decide +kernel
theorem d41_42 : decode jdk_52_method_4_code 42 = .ok (.i2b, 1) := by decide +kernel
theorem d41_43 : decode jdk_52_method_4_code 43 = .ok (.bastore, 1) := by decide +kernel
theorem d41_44 : decode jdk_52_method_4_code 44 = .ok (.aload_n 0, 1) := by decide +kernel
theorem d41_45 : decode jdk_52_method_4_code 45 = .ok (.iload_n 1, 1) := by decide +kernel
theorem d41_46 : decode jdk_52_method_4_code 46 = .ok (.iload_n 2, 1) := by decide +kernel
theorem d41_47 : decode jdk_52_method_4_code 47 = .ok (.getstatic 63, 3) := by decide +kernel
theorem d41_50 : decode jdk_52_method_4_code 50 = .ok (.ishr, 1) := by decide +kernel
theorem d41_51 : decode jdk_52_method_4_code 51 = .ok (.i2b, 1) := by decide +kernel
theorem d41_52 : decode jdk_52_method_4_code 52 = .ok (.bastore, 1) := by decide +kernel
theorem d41_53 : decode jdk_52_method_4_code 53 = .ok (.return_, 1) := by decide +kernel
def Q_rmPch (Z : State) (vb : Nat) (kv : ClassId) (cp : Int32) (us : List Value) (xi : Int32) (xc : Int32) (h0 : Heap) (n0 : Nat) (v : Option Value) (h : Heap) (L : List Loc) : Prop := v = none ∧ Fr n0 L ∧ Keep h0 h [vb] ∧ Arv Z h vb kv .byte cp (us ++ [(.int (own_lo xc)), (.int (own_hi xc))]) (.int (0 : Int32))
set_option maxRecDepth 65536 in
set_option maxHeartbeats 40000000 in
theorem rmPch (l : Launch) (Z : State) (a0 : Array Value) (hw : ∀ d ∈ tables_1, d.before a0 Z = true) (ws : List Jvm.Cond) (vb : Nat) (kv : ClassId) (cp : Int32) (us : List Value) (xi : Int32) (xc : Int32) (h0 : Heap) (n0 : Nat) (Z0 : n0 ≤ h0.size) (P1 : Arv Z h0 vb kv .byte cp us (.int (0 : Int32))) (OLD : Old Z n0 h0) (P2 : Sta Z Z.heap "java/lang/StringUTF16" "$assertionsDisabled" "Z" (.int (1 : Int32))) (P3 : Sta Z Z.heap "java/lang/StringUTF16" "HI_BYTE_SHIFT" "I" (.int (0 : Int32))) (P4 : Sta Z Z.heap "java/lang/StringUTF16" "LO_BYTE_SHIFT" "I" (.int (8 : Int32))) (hxi : 0 ≤ xi.toInt ∧ xi.toInt ≤ 1000) (hus : (us.length : Int) = 2 * xi.toInt) (hrm : (us.length : Int) + 2 ≤ cp.toInt) (gvb : n0 ≤ vb) :
    MetFree l (⟨"java/lang/StringUTF16", "putChar", "([BII)V"⟩ : MethodName) (head1 (Jvm.Cond.code (⟨"java/lang/StringUTF16", "putChar", "([BII)V"⟩ : MethodName) jdk_52_method_4_code 3 none :: ws) ({ frames := 0, cells := 0, slots := 0, locals := 0 } : Room)) (fun a U => a = #[(.ref vb), (.int xi), (.int xc)] ∧ Z.Warmed39 U.vm ∧ U.heap = h0) (fun _ _ _ _ _ => True) (fun _ U o U' => ∃ v L, o = .returned v ∧ Q_rmPch Z vb kv cp us xi xc h0 n0 v U'.heap L ∧ FrameEnd U o U' L ({ frames := 0, cells := 0, slots := 0, locals := 0 } : Room).cells ({ frames := 0, cells := 0, slots := 0, locals := 0 } : Room).slots) := by
  refine MetFree.of_bodySF (plainFor_of_name pn_java_lang_StringUTF16) hisR ?_
  intro p e s m args below meth c s₁ Bd hml0 hP hK
  obtain ⟨rfl, hZ, hh⟩ := hP
  have hx := Bd.exec
  have hby := Bd.bytes
  have hml : c.maxLocals = 3 := hml0
  have hown : s.vm.findClass "java/lang/StringUTF16" = some m.cls := findClass_of_methodNamed Bd.named
  have hnm := (name_of_methodNamed Bd.named Bd.method).1
  have X0 : Stand p l e ({ frames := 0, cells := 0, slots := 0, locals := 0 } : Room) s m #[(.ref vb), (.int xi), (.int xc)] below meth c s₁ [] 0 0 := Stand.of_body Bd
  have e0 : s₁.heap = h0 := by rw [← hh, Bd.state]; rfl
  have N0 := Fr.nil n0
  have pre0 : ∀ t, Steps p.tables e below (s₁.setTop (mkF m 0 #[.val (.ref vb), .val (.int xi), .val (.int xc)] [])) t → Steps p.tables e below (s₁.setTop (entryFrame m #[(.ref vb), (.int xi), (.int xc)] 3)) t := fun t k => castTop (ef_rmPch m vb xi xc) k
  have oz := OLD.1
  have lt_vb : vb < h0.size := P1.lt
  refine own_go (B := s₁.setTop (mkF m 0 #[.val (.ref vb), .val (.int xi), .val (.int xc)] [])) pre0 ?_
  show ∃ t o, Steps p.tables e below (s₁.setTop (mkF m 0 #[.val (.ref vb), .val (.int xi), .val (.int xc)] [])) t ∧ _
  obtain ⟨T5, X5, e5, st5⟩ := getS2 X0 hx hZ hown (host := "") (Or.inl (hw _ (List.mem_of_getElem? (i := 220) rfl))) Via.refl e0 (Sta.ext OLD.2 P2) (g := (mkF m 0 #[.val (.ref vb), .val (.int xi), .val (.int xc)] [])) rfl (hb hby d41_0)
  refine own_go st5 ?_
  show ∃ t o, Steps p.tables e below (T5.setTop (mkF m 3 #[.val (.ref vb), .val (.int xi), .val (.int xc)] [(.int (1 : Int32))])) t ∧ _
  refine own_go (fun _ => XS.ifYes X5.here hx rfl (pc0 := 3) (pc' := 28) rfl (hb hby d41_3) rfl ((if0 _ _).trans (feq (by decide : ¬ ((1 : Int32) = (0 : Int32)))).2) (by decide) (by decide)) ?_
  refine own_go (fun _ => XS.iloadN X5.here hx rfl (hb hby d41_28) rfl) ?_
  refine own_go (fun _ => XS.iconst X5.here hx rfl (hb hby d41_29)) ?_
  refine own_go (fun _ => XS.ishl X5.here hx rfl (hb hby d41_30) rfl) ?_
  refine own_go (fun _ => XS.istoreN X5.here hx rfl (hb hby d41_31) rfl (l' := #[.val (.ref vb), .val (.int (xi <<< ((1 : Int32) &&& 31))), .val (.int xc)]) rfl) ?_
  show ∃ t o, Steps p.tables e below (T5.setTop (mkF m 32 #[.val (.ref vb), .val (.int (xi <<< ((1 : Int32) &&& 31))), .val (.int xc)] [])) t ∧ _
  obtain ⟨yi, e_yi⟩ : ∃ z : Int32, z = (xi <<< ((1 : Int32) &&& 31)) := ⟨_, rfl⟩
  rw [← e_yi]
  have hy : yi.toInt = 2 * xi.toInt := by rw [e_yi]; exact own_dbl hxi
  have hj := own_j2 hy hxi hus hrm
  have Vp : Arv Z h0 vb kv .byte cp (us ++ List.replicate 2 (Value.int (0 : Int32))) (.int (0 : Int32)) := Arv.pad P1 (pad_rep us (Value.int (0 : Int32)) 2)
  show ∃ t o, Steps p.tables e below (T5.setTop (mkF m 32 #[.val (.ref vb), .val (.int yi), .val (.int xc)] [])) t ∧ _
  refine own_go (fun _ => XS.aloadN X5.here hx rfl (hb hby d41_32) rfl rfl) ?_
  refine own_go (fun _ => XS.iloadN X5.here hx rfl (hb hby d41_33) rfl) ?_
  refine own_go (fun _ => XS.iinc X5.here hx rfl (hb hby d41_34) rfl (l' := #[.val (.ref vb), .val (.int (yi + (1 : Int32))), .val (.int xc)]) rfl) ?_
  refine own_go (fun _ => XS.iloadN X5.here hx rfl (hb hby d41_37) rfl) ?_
  obtain ⟨T6, X6, e6, st6⟩ := getS2 X5 hx hZ hown (host := "") (Or.inl (hw _ (List.mem_of_getElem? (i := 221) rfl))) Via.refl e5 (Sta.ext OLD.2 P3) (g := (mkF m 38 #[.val (.ref vb), .val (.int (yi + (1 : Int32))), .val (.int xc)] [(.int xc), (.int yi), (.ref vb)])) rfl (hb hby d41_38)
  refine own_go st6 ?_
  refine own_go (fun _ => XS.ishr X6.here hx rfl (hb hby d41_41) rfl) ?_
  refine own_go (fun _ => XS.i2b X6.here hx rfl (hb hby d41_42) rfl) ?_
  obtain ⟨cl7, Ar7, q7, S7, N7, H7, G7⟩ := id Vp
  have hin7 : ¬ (yi < 0 ∨ cl7.slots.size ≤ (yi).toNatClampNeg) := inb_of S7 hj.1
  obtain ⟨T8, h8, X8, e8, W8, st8⟩ := stB X6 hx hZ e6 Ar7 (j := yi) hin7 (g := (mkF m 43 #[.val (.ref vb), .val (.int (yi + (1 : Int32))), .val (.int xc)] [(.int ((xc >>> ((0 : Int32) &&& 31)).toInt8.toInt32)), (.int yi), (.ref vb)])) rfl rfl (hb hby d41_43)
  refine own_go st8 ?_
  have le_8 : h0.size ≤ h8.size := Nat.le_of_eq W8.size.symm
  have K8 : Keep h0 h8 [vb] := Keep.wr (Keep.refl h0 [vb]) W8 (Or.inl (List.mem_of_getElem? (i := 0) rfl))
  have N8 := Fr.snoc X8 N0 gvb
  have V8 : Arv Z h8 vb kv .byte cp ((us ++ List.replicate 2 (Value.int (0 : Int32))).set (yi).toNatClampNeg (.int ((xc >>> ((0 : Int32) &&& 31)).toInt8.toInt32).toInt8.toInt32)) (.int (0 : Int32)) := Arv.set Ar7 q7 S7 N7 H7 G7 (fits_nar_byte _) W8 (yi).toNatClampNeg rfl (by rw [hj.2.1]; simp)
  refine own_go (fun _ => XS.aloadN X8.here hx rfl (hb hby d41_44) rfl rfl) ?_
  refine own_go (fun _ => XS.iloadN X8.here hx rfl (hb hby d41_45) rfl) ?_
  show ∃ t o, Steps p.tables e below (T8.setTop (mkF m 46 #[.val (.ref vb), .val (.int (yi + (1 : Int32))), .val (.int xc)] [(.int (yi + (1 : Int32))), (.ref vb)])) t ∧ _
  refine own_go (fun _ => XS.iloadN X8.here hx rfl (hb hby d41_46) rfl) ?_
  have F9 := (Old.wr OLD W8 gvb)
  obtain ⟨T10, X10, e10, st10⟩ := getS2 X8 hx hZ hown (host := "") (Or.inl (hw _ (List.mem_of_getElem? (i := 222) rfl))) Via.refl e8 (Sta.ext F9.2 P4) (g := (mkF m 47 #[.val (.ref vb), .val (.int (yi + (1 : Int32))), .val (.int xc)] [(.int xc), (.int (yi + (1 : Int32))), (.ref vb)])) rfl (hb hby d41_47)
  refine own_go st10 ?_
  refine own_go (fun _ => XS.ishr X10.here hx rfl (hb hby d41_50) rfl) ?_
  refine own_go (fun _ => XS.i2b X10.here hx rfl (hb hby d41_51) rfl) ?_
  obtain ⟨cl11, Ar11, q11, S11, N11, H11, G11⟩ := id V8
  have hin11 : ¬ ((yi + (1 : Int32)) < 0 ∨ cl11.slots.size ≤ ((yi + (1 : Int32))).toNatClampNeg) := inb_of S11 hj.2.2.1
  obtain ⟨T12, h12, X12, e12, W12, st12⟩ := stB X10 hx hZ e10 Ar11 (j := (yi + (1 : Int32))) hin11 (g := (mkF m 52 #[.val (.ref vb), .val (.int (yi + (1 : Int32))), .val (.int xc)] [(.int ((xc >>> ((8 : Int32) &&& 31)).toInt8.toInt32)), (.int (yi + (1 : Int32))), (.ref vb)])) rfl rfl (hb hby d41_52)
  refine own_go st12 ?_
  have le_12 : h8.size ≤ h12.size := Nat.le_of_eq W12.size.symm
  have K12 : Keep h0 h12 [vb] := Keep.wr K8 W12 (Or.inl (List.mem_of_getElem? (i := 0) rfl))
  have N12 := Fr.snoc X12 N8 gvb
  have V12 : Arv Z h12 vb kv .byte cp (((us ++ List.replicate 2 (Value.int (0 : Int32))).set (yi).toNatClampNeg (.int ((xc >>> ((0 : Int32) &&& 31)).toInt8.toInt32).toInt8.toInt32)).set ((yi + (1 : Int32))).toNatClampNeg (.int ((xc >>> ((8 : Int32) &&& 31)).toInt8.toInt32).toInt8.toInt32)) (.int (0 : Int32)) := Arv.set Ar11 q11 S11 N11 H11 G11 (fits_nar_byte _) W12 ((yi + (1 : Int32))).toNatClampNeg rfl (by rw [hj.2.2.2]; simp)
  have Vz : Arv Z h12 vb kv .byte cp (us ++ [(.int (own_lo xc)), (.int (own_hi xc))]) (.int (0 : Int32)) := by have q := V12; rw [own_set2 hj.2.1 hj.2.2.2] at q; simp only [own_b2] at q; exact q
  show ∃ t o, Steps p.tables e below (T12.setTop (mkF m 53 #[.val (.ref vb), .val (.int (yi + (1 : Int32))), .val (.int xc)] [])) t ∧ _
  obtain ⟨fs, hr, hrun, hended, hW, hsame⟩ := X12.leave (v := none) (fun _ => rfl)
  refine ⟨_, _, ?_, hrun, hended, _, _, rfl, ?_, ⟨_, rfl⟩, hW, hsame.mono (by decide) (by decide)⟩
  · exact X12.returnOut hx Bd.returns (hb hby d41_53) hr
  · show Q_rmPch Z _ _ _ _ _ _ h0 n0 _ T12.heap _
    rw [e12]
    exact ⟨rfl, N12, K12, Vz⟩
theorem ef_rmGch (m : MethodId) (x0 : Nat) (x1 : Int32) : entryFrame m #[(.ref x0), (.int x1)] 2 = mkF m 0 #[.val (.ref x0), .val (.int x1)] [] := by first | (simp [entryFrame, mkF, argsToLocals, Value.category]; done) | rfl
theorem d42_0 : decode jdk_52_method_5_code 0 = .ok (.getstatic 44, 3) := by decide +kernel
theorem d42_3 : decode jdk_52_method_5_code 3 = .ok (.ifCond .ne 25, 3) := by decide +kernel
theorem d42_28 : decode jdk_52_method_5_code 28 = .ok (.iload_n 1, 1) := by decide +kernel
theorem d42_29 : decode jdk_52_method_5_code 29 = .ok (.iconst 1, 1) := by decide +kernel
theorem d42_30 : decode jdk_52_method_5_code 30 = .ok (.ishl, 1) := by decide +kernel
theorem d42_31 : decode jdk_52_method_5_code 31 = .ok (.istore_n 1, 1) := by decide +kernel
theorem d42_32 : decode jdk_52_method_5_code 32 = .ok (.aload_n 0, 1) := by decide +kernel
theorem d42_33 : decode jdk_52_method_5_code 33 = .ok (.iload_n 1, 1) := by decide +kernel
theorem d42_34 : decode jdk_52_method_5_code 34 = .ok (.iinc 1 1, 3) := by decide +kernel
theorem d42_37 : decode jdk_52_method_5_code 37 = .ok (.baload, 1) := by decide +kernel
theorem d42_38 : decode jdk_52_method_5_code 38 = .ok (.sipush 255, 3) := by decide +kernel
theorem d42_41 : decode jdk_52_method_5_code 41 = .ok (.iand, 1) := by decide +kernel
theorem d42_42 : decode jdk_52_method_5_code 42 = .ok (.getstatic 59, 3) := by decide +kernel
theorem d42_45 : decode jdk_52_method_5_code 45 = .ok (.ishl, 1) := by decide +kernel
theorem d42_46 : decode jdk_52_method_5_code 46 = .ok (.aload_n 0, 1) := by decide +kernel
theorem d42_47 : decode jdk_52_method_5_code 47 = .ok (.iload_n 1, 1) := by decide +kernel
theorem d42_48 : decode jdk_52_method_5_code 48 = .ok (.baload, 1) := by decide +kernel
theorem d42_49 : decode jdk_52_method_5_code 49 = .ok (.sipush 255, 3) := by decide +kernel
theorem d42_52 : decode jdk_52_method_5_code 52 = .ok (.iand, 1) := by decide +kernel
theorem d42_53 : decode jdk_52_method_5_code 53 = .ok (.getstatic 63, 3) := by decide +kernel
theorem d42_56 : decode jdk_52_method_5_code 56 = .ok (.ishl, 1) := by decide +kernel
theorem d42_57 : decode jdk_52_method_5_code 57 = .ok (.ior, 1) := by decide +kernel
theorem d42_58 : decode jdk_52_method_5_code 58 = .ok (.i2c, 1) := by decide +kernel
theorem d42_59 : decode jdk_52_method_5_code 59 = .ok (.ireturn, 1) := by decide +kernel
def Q_rmGch (Z : State) (vb : Nat) (kv : ClassId) (cp : Int32) (cs : List Int32) (xi : Int32) (xc : Int32) (h0 : Heap) (n0 : Nat) (v : Option Value) (h : Heap) (L : List Loc) : Prop := v = some (.int xc) ∧ Fr n0 L ∧ h = h0
set_option maxRecDepth 65536 in
set_option maxHeartbeats 40000000 in
theorem rmGch (l : Launch) (Z : State) (a0 : Array Value) (hw : ∀ d ∈ tables_1, d.before a0 Z = true) (ws : List Jvm.Cond) (vb : Nat) (kv : ClassId) (cp : Int32) (cs : List Int32) (xi : Int32) (xc : Int32) (h0 : Heap) (n0 : Nat) (Z0 : n0 ≤ h0.size) (P1 : Arv Z h0 vb kv .byte cp (own_u8 cs) (.int (0 : Int32))) (OLD : Old Z n0 h0) (P2 : Sta Z Z.heap "java/lang/StringUTF16" "$assertionsDisabled" "Z" (.int (1 : Int32))) (P3 : Sta Z Z.heap "java/lang/StringUTF16" "HI_BYTE_SHIFT" "I" (.int (0 : Int32))) (P4 : Sta Z Z.heap "java/lang/StringUTF16" "LO_BYTE_SHIFT" "I" (.int (8 : Int32))) (hat : own_at cs xi xc) (h34 : cs.length ≤ 34) (hcp : cp.toInt = 2 * (cs.length : Int)) (hc : own_c16 xc) :
    MetFree l (⟨"java/lang/StringUTF16", "getChar", "([BI)C"⟩ : MethodName) (head1 (Jvm.Cond.code (⟨"java/lang/StringUTF16", "getChar", "([BI)C"⟩ : MethodName) jdk_52_method_5_code 2 (some .char) :: ws) ({ frames := 0, cells := 0, slots := 0, locals := 0 } : Room)) (fun a U => a = #[(.ref vb), (.int xi)] ∧ Z.Warmed39 U.vm ∧ U.heap = h0) (fun _ _ _ _ _ => True) (fun _ U o U' => ∃ v L, o = .returned v ∧ Q_rmGch Z vb kv cp cs xi xc h0 n0 v U'.heap L ∧ FrameEnd U o U' L ({ frames := 0, cells := 0, slots := 0, locals := 0 } : Room).cells ({ frames := 0, cells := 0, slots := 0, locals := 0 } : Room).slots) := by
  refine MetFree.of_bodySF (plainFor_of_name pn_java_lang_StringUTF16) hisR ?_
  intro p e s m args below meth c s₁ Bd hml0 hP hK
  obtain ⟨rfl, hZ, hh⟩ := hP
  have hx := Bd.exec
  have hby := Bd.bytes
  have hml : c.maxLocals = 2 := hml0
  have hown : s.vm.findClass "java/lang/StringUTF16" = some m.cls := findClass_of_methodNamed Bd.named
  have hnm := (name_of_methodNamed Bd.named Bd.method).1
  have X0 : Stand p l e ({ frames := 0, cells := 0, slots := 0, locals := 0 } : Room) s m #[(.ref vb), (.int xi)] below meth c s₁ [] 0 0 := Stand.of_body Bd
  have e0 : s₁.heap = h0 := by rw [← hh, Bd.state]; rfl
  have N0 := Fr.nil n0
  have pre0 : ∀ t, Steps p.tables e below (s₁.setTop (mkF m 0 #[.val (.ref vb), .val (.int xi)] [])) t → Steps p.tables e below (s₁.setTop (entryFrame m #[(.ref vb), (.int xi)] 2)) t := fun t k => castTop (ef_rmGch m vb xi) k
  have oz := OLD.1
  have lt_vb : vb < h0.size := P1.lt
  refine own_go (B := s₁.setTop (mkF m 0 #[.val (.ref vb), .val (.int xi)] [])) pre0 ?_
  show ∃ t o, Steps p.tables e below (s₁.setTop (mkF m 0 #[.val (.ref vb), .val (.int xi)] [])) t ∧ _
  obtain ⟨T5, X5, e5, st5⟩ := getS2 X0 hx hZ hown (host := "") (Or.inl (hw _ (List.mem_of_getElem? (i := 220) rfl))) Via.refl e0 (Sta.ext OLD.2 P2) (g := (mkF m 0 #[.val (.ref vb), .val (.int xi)] [])) rfl (hb hby d42_0)
  refine own_go st5 ?_
  show ∃ t o, Steps p.tables e below (T5.setTop (mkF m 3 #[.val (.ref vb), .val (.int xi)] [(.int (1 : Int32))])) t ∧ _
  refine own_go (fun _ => XS.ifYes X5.here hx rfl (pc0 := 3) (pc' := 28) rfl (hb hby d42_3) rfl ((if0 _ _).trans (feq (by decide : ¬ ((1 : Int32) = (0 : Int32)))).2) (by decide) (by decide)) ?_
  refine own_go (fun _ => XS.iloadN X5.here hx rfl (hb hby d42_28) rfl) ?_
  refine own_go (fun _ => XS.iconst X5.here hx rfl (hb hby d42_29)) ?_
  refine own_go (fun _ => XS.ishl X5.here hx rfl (hb hby d42_30) rfl) ?_
  refine own_go (fun _ => XS.istoreN X5.here hx rfl (hb hby d42_31) rfl (l' := #[.val (.ref vb), .val (.int (xi <<< ((1 : Int32) &&& 31)))]) rfl) ?_
  show ∃ t o, Steps p.tables e below (T5.setTop (mkF m 32 #[.val (.ref vb), .val (.int (xi <<< ((1 : Int32) &&& 31)))] [])) t ∧ _
  obtain ⟨yi, e_yi⟩ : ∃ z : Int32, z = (xi <<< ((1 : Int32) &&& 31)) := ⟨_, rfl⟩
  rw [← e_yi]
  have hle := own_atle hat h34
  have hy : yi.toInt = 2 * xi.toInt := by rw [e_yi]; exact own_dbl hle
  have hg := own_u8g hat hle.2 hy
  have hlt := hat.lt
  have hj := own_j2 (ul := 2 * xi.toInt.toNat) (cp := cp) hy hle (by omega) (by have e2 : xi.toNatClampNeg = xi.toInt.toNat := rfl; omega)
  show ∃ t o, Steps p.tables e below (T5.setTop (mkF m 32 #[.val (.ref vb), .val (.int yi)] [])) t ∧ _
  refine own_go (fun _ => XS.aloadN X5.here hx rfl (hb hby d42_32) rfl rfl) ?_
  refine own_go (fun _ => XS.iloadN X5.here hx rfl (hb hby d42_33) rfl) ?_
  refine own_go (fun _ => XS.iinc X5.here hx rfl (hb hby d42_34) rfl (l' := #[.val (.ref vb), .val (.int (yi + (1 : Int32)))]) rfl) ?_
  obtain ⟨cl6, Ar6, q6, S6, N6, H6, G6⟩ := id P1
  have hin6 : ¬ (yi < 0 ∨ cl6.slots.size ≤ (yi).toNatClampNeg) := inb_of S6 hj.1
  have hat6 : cl6.slots[(yi).toNatClampNeg]? = some (.int (own_lo xc)) := Has.at H6 hin6 hg.1
  refine own_go (fun _ => X5.baloadBytes hx (j := yi) (v := (.int (own_lo xc))) (by rw [e5]; exact Ar6.1) (State.isArrayOf_alike hZ.alike Ar6.2.1) Ar6.2.2 hin6 hat6 (g := (mkF m 37 #[.val (.ref vb), .val (.int (yi + (1 : Int32)))] [(.int yi), (.ref vb)])) rfl rfl (hb hby d42_37) _) ?_
  refine own_go (fun _ => XS.sipush X5.here hx rfl (hb hby d42_38)) ?_
  refine own_go (fun _ => XS.iand X5.here hx rfl (hb hby d42_41) rfl) ?_
  obtain ⟨T7, X7, e7, st7⟩ := getS2 X5 hx hZ hown (host := "") (Or.inl (hw _ (List.mem_of_getElem? (i := 221) rfl))) Via.refl e5 (Sta.ext OLD.2 P3) (g := (mkF m 42 #[.val (.ref vb), .val (.int (yi + (1 : Int32)))] [(.int ((own_lo xc) &&& (255 : Int32)))])) rfl (hb hby d42_42)
  refine own_go st7 ?_
  refine own_go (fun _ => XS.ishl X7.here hx rfl (hb hby d42_45) rfl) ?_
  refine own_go (fun _ => XS.aloadN X7.here hx rfl (hb hby d42_46) rfl rfl) ?_
  refine own_go (fun _ => XS.iloadN X7.here hx rfl (hb hby d42_47) rfl) ?_
  show ∃ t o, Steps p.tables e below (T7.setTop (mkF m 48 #[.val (.ref vb), .val (.int (yi + (1 : Int32)))] [(.int (yi + (1 : Int32))), (.ref vb), (.int (((own_lo xc) &&& (255 : Int32)) <<< ((0 : Int32) &&& 31)))])) t ∧ _
  obtain ⟨cl8, Ar8, q8, S8, N8, H8, G8⟩ := id P1
  have hin8 : ¬ ((yi + (1 : Int32)) < 0 ∨ cl8.slots.size ≤ ((yi + (1 : Int32))).toNatClampNeg) := inb_of S8 hj.2.2.1
  have hat8 : cl8.slots[((yi + (1 : Int32))).toNatClampNeg]? = some (.int (own_hi xc)) := Has.at H8 hin8 hg.2
  refine own_go (fun _ => X7.baloadBytes hx (j := (yi + (1 : Int32))) (v := (.int (own_hi xc))) (by rw [e7]; exact Ar8.1) (State.isArrayOf_alike hZ.alike Ar8.2.1) Ar8.2.2 hin8 hat8 (g := (mkF m 48 #[.val (.ref vb), .val (.int (yi + (1 : Int32)))] [(.int (yi + (1 : Int32))), (.ref vb), (.int (((own_lo xc) &&& (255 : Int32)) <<< ((0 : Int32) &&& 31)))])) rfl rfl (hb hby d42_48) _) ?_
  refine own_go (fun _ => XS.sipush X7.here hx rfl (hb hby d42_49)) ?_
  refine own_go (fun _ => XS.iand X7.here hx rfl (hb hby d42_52) rfl) ?_
  obtain ⟨T9, X9, e9, st9⟩ := getS2 X7 hx hZ hown (host := "") (Or.inl (hw _ (List.mem_of_getElem? (i := 222) rfl))) Via.refl e7 (Sta.ext OLD.2 P4) (g := (mkF m 53 #[.val (.ref vb), .val (.int (yi + (1 : Int32)))] [(.int ((own_hi xc) &&& (255 : Int32))), (.int (((own_lo xc) &&& (255 : Int32)) <<< ((0 : Int32) &&& 31)))])) rfl (hb hby d42_53)
  refine own_go st9 ?_
  refine own_go (fun _ => XS.ishl X9.here hx rfl (hb hby d42_56) rfl) ?_
  refine own_go (fun _ => XS.ior X9.here hx rfl (hb hby d42_57) rfl) ?_
  refine own_go (fun _ => XS.i2c X9.here hx rfl (hb hby d42_58) rfl) ?_
  show ∃ t o, Steps p.tables e below (T9.setTop (mkF m 59 #[.val (.ref vb), .val (.int (yi + (1 : Int32)))] [(.int (((((own_lo xc) &&& (255 : Int32)) <<< ((0 : Int32) &&& 31)) ||| (((own_hi xc) &&& (255 : Int32)) <<< ((8 : Int32) &&& 31))).toUInt32.toUInt16.toUInt32.toInt32))])) t ∧ _
  obtain ⟨fs, hr, hrun, hended, hW, hsame⟩ := X9.leave (v := some (.int (nar .char (((((own_lo xc) &&& (255 : Int32)) <<< ((0 : Int32) &&& 31)) ||| (((own_hi xc) &&& (255 : Int32)) <<< ((8 : Int32) &&& 31))).toUInt32.toUInt16.toUInt32.toInt32)))) (fun h => by rw [Bd.returns] at h; cases h)
  refine ⟨_, _, ?_, hrun, hended, _, _, rfl, ?_, ⟨_, rfl⟩, hW, hsame.mono (by decide) (by decide)⟩
  · exact retN X9 hx (t := .char) Bd.returns (by simp) (hb hby d42_59) hr
  · show Q_rmGch Z _ _ _ _ _ _ h0 n0 _ T9.heap _
    rw [e9]
    exact ⟨(congrArg (fun z => some (Value.int z)) (own_gc hc)), N0, rfl⟩
theorem ef_rmTby (m : MethodId) (x0 : Nat) (x1 : Int32) (x2 : Int32) : entryFrame m #[(.ref x0), (.int x1), (.int x2)] 5 = mkF m 0 #[.val (.ref x0), .val (.int x1), .val (.int x2), .unset, .unset] [] := by first | (simp [entryFrame, mkF, argsToLocals, Value.category]; done) | rfl
theorem d38_0 : decode jdk_52_method_14_code 0 = .ok (.iload_n 2, 1) := by decide +kernel
theorem d38_1 : decode jdk_52_method_14_code 1 = .ok (.invokestatic 107, 3) := by decide +kernel
theorem pd__28I_29_5bB : parseMethodDescriptor "(I)[B" = some ⟨[.int], some (.array .byte)⟩ := by decide +kernel
theorem d38_4 : decode jdk_52_method_14_code 4 = .ok (.astore_n 3, 1) := by decide +kernel
theorem d38_8 : decode jdk_52_method_14_code 8 = .ok (.iload 4, 2) := by decide +kernel
theorem d38_10 : decode jdk_52_method_14_code 10 = .ok (.iload_n 2, 1) := by decide +kernel
theorem d38_11 : decode jdk_52_method_14_code 11 = .ok (.if_icmp .ge 21, 3) := by decide +kernel
theorem d38_14 : decode jdk_52_method_14_code 14 = .ok (.aload_n 3, 1) := by decide +kernel
theorem d38_15 : decode jdk_52_method_14_code 15 = .ok (.iload 4, 2) := by decide +kernel
theorem d38_17 : decode jdk_52_method_14_code 17 = .ok (.aload_n 0, 1) := by decide +kernel
theorem d38_18 : decode jdk_52_method_14_code 18 = .ok (.iload_n 1, 1) := by decide +kernel
theorem d38_19 : decode jdk_52_method_14_code 19 = .ok (.caload, 1) := by decide +kernel
theorem d38_20 : decode jdk_52_method_14_code 20 = .ok (.invokestatic 111, 3) := by decide +kernel
theorem pd__28_5bBII_29V : parseMethodDescriptor "([BII)V" = some ⟨[(.array .byte), .int, .int], none⟩ := by decide +kernel
theorem d38_23 : decode jdk_52_method_14_code 23 = .ok (.iinc 1 1, 3) := by decide +kernel
theorem d38_26 : decode jdk_52_method_14_code 26 = .ok (.iinc 4 1, 3) := by decide +kernel
theorem d38_29 : decode jdk_52_method_14_code 29 = .ok (.goto (-21), 3) := by decide +kernel
theorem d38_32 : decode jdk_52_method_14_code 32 = .ok (.aload_n 3, 1) := by decide +kernel
theorem d38_33 : decode jdk_52_method_14_code 33 = .ok (.areturn, 1) := by decide +kernel
theorem d38_5 : decode jdk_52_method_14_code 5 = .ok (.iconst 0, 1) := by decide +kernel
theorem d38_6 : decode jdk_52_method_14_code 6 = .ok (.istore 4, 2) := by decide +kernel
def Q_rmTby (Z : State) (ca : Nat) (kc : ClassId) (nn : Int32) (cs : List Int32) (h0 : Heap) (n0 : Nat) (v : Option Value) (h : Heap) (L : List Loc) : Prop := ∃ (nb : Nat), ∃ (kn : ClassId), ∃ (n2 : Int32), v = some (.ref nb) ∧ Fr n0 L ∧ Keep h0 h [] ∧ Exa Z h nb "[B" ∧ Arv Z h nb kn .byte n2 (own_u8 cs) (.int (0 : Int32)) ∧ (n2.toInt = 2 * nn.toInt) ∧ (h0.size ≤ nb)
set_option maxRecDepth 65536 in
set_option maxHeartbeats 40000000 in
theorem rmTby (l : Launch) (Z : State) (a0 : Array Value) (hw : ∀ d ∈ tables_1, d.before a0 Z = true) (ws : List Jvm.Cond) (ca : Nat) (kc : ClassId) (nn : Int32) (cs : List Int32) (h0 : Heap) (n0 : Nat) (Z0 : n0 ≤ h0.size) (P1 : Arv Z h0 ca kc .char nn (own_cv cs) (.int (0 : Int32))) (OLD : Old Z n0 h0) (P2 : Sta Z Z.heap "java/lang/StringUTF16" "$assertionsDisabled" "Z" (.int (1 : Int32))) (P3 : Sta Z Z.heap "java/lang/StringUTF16" "HI_BYTE_SHIFT" "I" (.int (0 : Int32))) (P4 : Sta Z Z.heap "java/lang/StringUTF16" "LO_BYTE_SHIFT" "I" (.int (8 : Int32))) (fc : own_fit (own_cv cs) nn) (h34 : cs.length ≤ 34) :
    MetFree l (⟨"java/lang/StringUTF16", "toBytes", "([CII)[B"⟩ : MethodName) (head1 (Jvm.Cond.code (⟨"java/lang/StringUTF16", "toBytes", "([CII)[B"⟩ : MethodName) jdk_52_method_14_code 5 (some (.array .byte)) :: ws) ({ frames := 2, cells := 1, slots := 68, locals := 24 } : Room)) (fun a U => a = #[(.ref ca), (.int (0 : Int32)), (.int nn)] ∧ Z.Warmed39 U.vm ∧ U.heap = h0) (fun _ _ _ _ _ => True) (fun _ U o U' => ∃ v L, o = .returned v ∧ Q_rmTby Z ca kc nn cs h0 n0 v U'.heap L ∧ FrameEnd U o U' L ({ frames := 2, cells := 1, slots := 68, locals := 24 } : Room).cells ({ frames := 2, cells := 1, slots := 68, locals := 24 } : Room).slots) := by
  refine MetFree.of_bodySF (plainFor_of_name pn_java_lang_StringUTF16) hisR ?_
  intro p e s m args below meth c s₁ Bd hml0 hP hK
  obtain ⟨rfl, hZ, hh⟩ := hP
  have hx := Bd.exec
  have hby := Bd.bytes
  have hml : c.maxLocals = 5 := hml0
  have hown : s.vm.findClass "java/lang/StringUTF16" = some m.cls := findClass_of_methodNamed Bd.named
  have hnm := (name_of_methodNamed Bd.named Bd.method).1
  have X0 : Stand p l e ({ frames := 2, cells := 1, slots := 68, locals := 24 } : Room) s m #[(.ref ca), (.int (0 : Int32)), (.int nn)] below meth c s₁ [] 0 0 := Stand.of_body Bd
  have e0 : s₁.heap = h0 := by rw [← hh, Bd.state]; rfl
  have N0 := Fr.nil n0
  have pre0 : ∀ t, Steps p.tables e below (s₁.setTop (mkF m 0 #[.val (.ref ca), .val (.int (0 : Int32)), .val (.int nn), .unset, .unset] [])) t → Steps p.tables e below (s₁.setTop (entryFrame m #[(.ref ca), (.int (0 : Int32)), (.int nn)] 5)) t := fun t k => castTop (ef_rmTby m ca (0 : Int32) nn) k
  have w_17 := hw _ (List.mem_of_getElem? (i := 17) rfl)
  have w_212 := hw _ (List.mem_of_getElem? (i := 212) rfl)
  have w_219 := hw _ (List.mem_of_getElem? (i := 219) rfl)
  have oz := OLD.1
  have lt_ca : ca < h0.size := P1.lt
  refine own_go (B := s₁.setTop (mkF m 0 #[.val (.ref ca), .val (.int (0 : Int32)), .val (.int nn), .unset, .unset] [])) pre0 ?_
  show ∃ t o, Steps p.tables e below (s₁.setTop (mkF m 0 #[.val (.ref ca), .val (.int (0 : Int32)), .val (.int nn), .unset, .unset] [])) t ∧ _
  refine own_go (fun _ => XS.iloadN X0.here hx rfl (hb hby d38_0) rfl) ?_
  show ∃ t o, Steps p.tables e below (s₁.setTop (mkF m 1 #[.val (.ref ca), .val (.int (0 : Int32)), .val (.int nn), .unset, .unset] [(.int nn)])) t ∧ _
  obtain ⟨_, _, ⟨T5, L5, k5, n5⟩, -, X5, ⟨Lc5, hQ5, l5, y5, z5⟩, st5⟩ := Jvm.LawKit.callS X0 hx (y := (⟨"java/lang/StringUTF16", "newBytesFor", "(I)[B"⟩ : MethodName)) hown (mvT hZ (hw _ (List.mem_of_getElem? (i := 210) rfl))) (mvT hZ (hw _ (List.mem_of_getElem? (i := 211) rfl))) (mvT hZ w_17) (mvT hZ w_212) (by decide) (backOf (W := 0) (rmNbf l Z a0 hw [] nn h0 n0 Z0 OLD (own_n34 fc h34 : 0 ≤ nn.toInt ∧ nn.toInt ≤ 34)) hZ w_212 w_17 (by decide) (by decide)) (g := (mkF m 1 #[.val (.ref ca), .val (.int (0 : Int32)), .val (.int nn), .unset, .unset] [(.int nn)])) rfl (by rw [hml]; rfl) (argsL := [(.int nn)]) (rest := []) (lenOf pd__28I_29_5bB rfl) rfl (by show 2 * 0 + _ ≤ _; exact Nat.le_of_eq rfl) (hb hby d38_1) (fun _ _ => ⟨rfl, e0, (by decide : 0 + 1 ≤ _), (by decide : 0 + 68 ≤ _)⟩)
  dsimp only [Pt.U, Pt.locs, Pt.cells, Pt.slots] at X5 l5 y5 z5 st5 hQ5
  rw [l5, y5, z5] at X5
  obtain ⟨nb_5, kn_5, n2_5, rfl, Nq5, Kp5, G5_0, G5_1, H5_0, H5_1⟩ := hQ5
  have N5 := Fr.app N0 Nq5
  refine own_go st5 ?_
  have le_5 : h0.size ≤ T5.heap.size := Kp5.1
  have K5 : Keep h0 T5.heap [] := Keep.trans (Keep.refl h0 []) Kp5 all0
  have lt_nb_5 : nb_5 < T5.heap.size := (G5_0).lt
  refine own_go (fun _ => XS.astoreN X5.here hx rfl (hb hby d38_4) rfl rfl (l' := #[.val (.ref ca), .val (.int (0 : Int32)), .val (.int nn), .val (.ref nb_5), .unset]) rfl) ?_
  refine own_nameP (fun P eP => ?_)
  have loop8 : ∀ (r : Nat) (ii : Int32) (Tl_8 : State) (hl_8 : Heap) (Ll_8 : List Loc) (Xl_8 : Stand p l e ({ frames := 2, cells := 1, slots := 68, locals := 24 } : Room) s m #[(.ref ca), (.int (0 : Int32)), (.int nn)] below meth c Tl_8 Ll_8 1 68) (el_8 : Tl_8.heap = hl_8) (Nl_8 : Fr n0 Ll_8) (Kl_8 : Keep h0 hl_8 []) (OLDl_8 : Old Z n0 hl_8) (Fl_8_0 : Arv Z hl_8 ca kc .char nn (own_cv cs) (.int (0 : Int32))) (Fl_8_1 : Exa Z hl_8 nb_5 "[B") (Fl_8_2 : Arv Z hl_8 nb_5 kn_5 .byte n2_5 (own_u8 (cs.take ii.toInt.toNat)) (.int (0 : Int32))) (hI : own_ci cs ii) (hr : (cs.length - ii.toInt.toNat) = r), ∃ t o, Steps p.tables e below (Tl_8.setTop (mkF m 8 #[.val (.ref ca), .val (.int ii), .val (.int nn), .val (.ref nb_5), .val (.int ii)] [])) t ∧ P t o := by
    intro r
    induction r using Nat.strongRecOn with
    | _ r ih8 =>
      intro ii Tl_8 hl_8 Ll_8 Xl_8 el_8 Nl_8 Kl_8 OLDl_8 Fl_8_0 Fl_8_1 Fl_8_2 hI hr
      have lel_8 : h0.size ≤ hl_8.size := Kl_8.1
      have ltl8_ca : ca < hl_8.size := Fl_8_0.lt
      have ltl8_nb_5 : nb_5 < hl_8.size := Fl_8_1.lt
      show ∃ t o, Steps p.tables e below (Tl_8.setTop (mkF m 8 #[.val (.ref ca), .val (.int ii), .val (.int nn), .val (.ref nb_5), .val (.int ii)] [])) t ∧ _
      refine own_go (fun _ => XS.iload Xl_8.here hx rfl (hb hby d38_8) rfl) ?_
      refine own_go (fun _ => XS.iloadN Xl_8.here hx rfl (hb hby d38_10) rfl) ?_
      show ∃ t o, Steps p.tables e below (Tl_8.setTop (mkF m 11 #[.val (.ref ca), .val (.int ii), .val (.int nn), .val (.ref nb_5), .val (.int ii)] [(.int nn), (.int ii)])) t ∧ _
      by_cases hc6 : ii < nn
      · refine own_go (fun _ => XS.icmpNo Xl_8.here hx rfl (hb hby d38_11) rfl (tlt hc6).2.1) ?_
        obtain ⟨xc, hat⟩ := own_at_of fc hI.1 hc6
        have hin := own_cin hI hc6
        refine own_go (fun _ => XS.aloadN Xl_8.here hx rfl (hb hby d38_14) rfl rfl) ?_
        refine own_go (fun _ => XS.iload Xl_8.here hx rfl (hb hby d38_15) rfl) ?_
        refine own_go (fun _ => XS.aloadN Xl_8.here hx rfl (hb hby d38_17) rfl rfl) ?_
        refine own_go (fun _ => XS.iloadN Xl_8.here hx rfl (hb hby d38_18) rfl) ?_
        obtain ⟨cl7, Ar7, q7, S7, N7, H7, G7⟩ := id Fl_8_0
        have hin7 : ¬ (ii < 0 ∨ cl7.slots.size ≤ (ii).toNatClampNeg) := inb_of S7 hin
        have hat7 : cl7.slots[(ii).toNatClampNeg]? = some (.int xc) := Has.at H7 hin7 hat.cv
        refine own_go (fun _ => Xl_8.caload hx (j := ii) (v := (.int xc)) (by rw [el_8]; exact Ar7.1) (State.isArrayOf_alike hZ.alike Ar7.2.1) Ar7.2.2 hin7 hat7 (g := (mkF m 19 #[.val (.ref ca), .val (.int ii), .val (.int nn), .val (.ref nb_5), .val (.int ii)] [(.int ii), (.ref ca), (.int ii), (.ref nb_5)])) rfl rfl (hb hby d38_19) _) ?_
        show ∃ t o, Steps p.tables e below (Tl_8.setTop (mkF m 20 #[.val (.ref ca), .val (.int ii), .val (.int nn), .val (.ref nb_5), .val (.int ii)] [(.int xc), (.int ii), (.ref nb_5)])) t ∧ _
        have ge8 : n0 ≤ nb_5 := by omega
        have zl9 : n0 ≤ hl_8.size := by omega
        obtain ⟨_, _, ⟨T10, L10, k10, n10⟩, -, X10, ⟨Lc10, hQ10, l10, y10, z10⟩, st10⟩ := Jvm.LawKit.callS Xl_8 hx (y := (⟨"java/lang/StringUTF16", "putChar", "([BII)V"⟩ : MethodName)) hown (mvT hZ (hw _ (List.mem_of_getElem? (i := 217) rfl))) (mvT hZ (hw _ (List.mem_of_getElem? (i := 218) rfl))) (mvT hZ w_17) (mvT hZ w_219) (by decide) (backOf (W := 0) (rmPch l Z a0 hw [] nb_5 kn_5 n2_5 ((own_u8 (cs.take ii.toInt.toNat))) ii xc hl_8 n0 zl9 Fl_8_2 OLDl_8 P2 P3 P4 (⟨hI.1, by have q := hI.2.1; have z := hI.2.2; omega⟩ : 0 ≤ ii.toInt ∧ ii.toInt ≤ 1000) (own_u8t hI : ((own_u8 (cs.take ii.toInt.toNat)).length : Int) = 2 * ii.toInt) (own_rm2 hI hc6 H5_0 : ((own_u8 (cs.take ii.toInt.toNat)).length : Int) + 2 ≤ n2_5.toInt) ge8) hZ w_219 w_17 (by decide) (by decide)) (g := (mkF m 20 #[.val (.ref ca), .val (.int ii), .val (.int nn), .val (.ref nb_5), .val (.int ii)] [(.int xc), (.int ii), (.ref nb_5)])) rfl (by rw [hml]; rfl) (argsL := [(.ref nb_5), (.int ii), (.int xc)]) (rest := []) (lenOf pd__28_5bBII_29V rfl) rfl (by show 2 * 0 + _ ≤ _; exact Nat.le_of_eq rfl) (hb hby d38_20) (fun _ _ => ⟨rfl, el_8, (by decide : 1 + 0 ≤ _), (by decide : 68 + 0 ≤ _)⟩)
        dsimp only [Pt.U, Pt.locs, Pt.cells, Pt.slots] at X10 l10 y10 z10 st10 hQ10
        rw [l10, y10, z10] at X10
        obtain ⟨rfl, Nq10, Kp10, G10_0⟩ := hQ10
        have N10 := Fr.app Nl_8 Nq10
        refine own_go st10 ?_
        have le_10 : hl_8.size ≤ T10.heap.size := Kp10.1
        have sz11 : h0.size ≤ nb_5 := by omega
        have K10 : Keep h0 T10.heap [] := Keep.trans Kl_8 Kp10 (allS (Or.inr sz11) all0)
        have Vu : Arv Z T10.heap nb_5 kn_5 .byte n2_5 (own_u8 (cs.take (ii + (1 : Int32)).toInt.toNat)) (.int (0 : Int32)) := by rw [own_tk hat (own_cilt hI), own_u8a]; exact G10_0
        refine own_go (fun _ => XS.iinc X10.here hx rfl (hb hby d38_23) rfl (l' := #[.val (.ref ca), .val (.int (ii + (1 : Int32))), .val (.int nn), .val (.ref nb_5), .val (.int ii)]) rfl) ?_
        refine own_go (fun _ => XS.iinc X10.here hx rfl (hb hby d38_26) rfl (l' := #[.val (.ref ca), .val (.int (ii + (1 : Int32))), .val (.int nn), .val (.ref nb_5), .val (.int (ii + (1 : Int32)))]) rfl) ?_
        refine own_go (fun _ => XS.goto X10.here hx rfl (pc0 := 29) (pc' := 8) rfl (hb hby d38_29) (by decide) (by decide)) ?_
        have F12 := (Old.keep OLDl_8 Kp10 (allS ge8 all0))
        have ne13 : ca ≠ nb_5 := own_ne (by omega)
        have F14 := (Arv.keep Fl_8_0 Kp10 (ninS ne13 nin0))
        have F15 := (Exa.keep Fl_8_1 Kp10)
        show ∃ t o, Steps p.tables e below (T10.setTop (mkF m 8 #[.val (.ref ca), .val (.int (ii + (1 : Int32))), .val (.int nn), .val (.ref nb_5), .val (.int (ii + (1 : Int32)))] [])) t ∧ _
        exact ih8 _ (by have q := own_cim hI hat; omega) (ii + (1 : Int32)) _ _ _ X10 rfl N10 K10 F12 F14 F15 Vu (own_ciS hI hat) rfl
      · refine own_go (fun _ => XS.icmpYes Xl_8.here hx rfl (pc0 := 11) (pc' := 32) rfl (hb hby d38_11) rfl (flt hc6).2.1 (by decide) (by decide)) ?_
        have Vu : Arv Z hl_8 nb_5 kn_5 .byte n2_5 (own_u8 cs) (.int (0 : Int32)) := by have q := Fl_8_2; rw [own_ciE fc hI hc6] at q; exact q
        refine own_go (fun _ => XS.aloadN Xl_8.here hx rfl (hb hby d38_32) rfl rfl) ?_
        show ∃ t o, Steps p.tables e below (Tl_8.setTop (mkF m 33 #[.val (.ref ca), .val (.int ii), .val (.int nn), .val (.ref nb_5), .val (.int ii)] [(.ref nb_5)])) t ∧ _
        subst eP
        obtain ⟨fs, hr, hrun, hended, hW, hsame⟩ := Xl_8.leave (v := some (.ref nb_5)) (fun h => by rw [Bd.returns] at h; cases h)
        refine ⟨_, _, ?_, hrun, hended, _, _, rfl, ?_, ⟨_, rfl⟩, hW, hsame.mono (by decide) (by decide)⟩
        · jvm_step Xl_8.here [Xl_8.here.top, hx, (hb hby d38_33), Xl_8.method', Bd.returns, Value.isRef, FieldType.isReference]
          first | (intro acts; rw [hr _ acts rfl rfl rfl]) | rw [hr _ _ rfl rfl rfl]
          exact Steps.refl _
        · show Q_rmTby Z _ _ _ _ h0 n0 _ Tl_8.heap _
          rw [el_8]
          exact ⟨nb_5, kn_5, n2_5, rfl, Nl_8, Kl_8, Fl_8_1, Vu, H5_0, H5_1⟩
  refine own_go (fun _ => XS.iconst X5.here hx rfl (hb hby d38_5)) ?_
  refine own_go (fun _ => XS.istore X5.here hx rfl (hb hby d38_6) rfl (l' := #[.val (.ref ca), .val (.int (0 : Int32)), .val (.int nn), .val (.ref nb_5), .val (.int (0 : Int32))]) rfl) ?_
  have V0 : Arv Z T5.heap nb_5 kn_5 .byte n2_5 (own_u8 (cs.take (0 : Int32).toInt.toNat)) (.int (0 : Int32)) := G5_1
  have F16 := (Old.keep OLD Kp5 all0)
  have F17 := (Arv.keep P1 Kp5 nin0)
  show ∃ t o, Steps p.tables e below (T5.setTop (mkF m 8 #[.val (.ref ca), .val (.int (0 : Int32)), .val (.int nn), .val (.ref nb_5), .val (.int (0 : Int32))] [])) t ∧ _
  exact loop8 _ (0 : Int32) _ _ _ X5 rfl N5 K5 F16 F17 G5_0 V0 (own_ci0 (by omega)) rfl
theorem ef_rmCmp (m : MethodId) (x0 : Nat) (x1 : Int32) (x2 : Nat) (x3 : Int32) (x4 : Int32) : entryFrame m #[(.ref x0), (.int x1), (.ref x2), (.int x3), (.int x4)] 7 = mkF m 0 #[.val (.ref x0), .val (.int x1), .val (.ref x2), .val (.int x3), .val (.int x4), .unset, .unset] [] := by first | (simp [entryFrame, mkF, argsToLocals, Value.category]; done) | rfl
theorem d5_3 : decode jdk_52_method_21_code 3 = .ok (.iload 5, 2) := by decide +kernel
theorem d5_5 : decode jdk_52_method_21_code 5 = .ok (.iload 4, 2) := by decide +kernel
theorem d5_7 : decode jdk_52_method_21_code 7 = .ok (.if_icmp .ge 37, 3) := by decide +kernel
theorem d5_10 : decode jdk_52_method_21_code 10 = .ok (.aload_n 0, 1) := by decide +kernel
theorem d5_11 : decode jdk_52_method_21_code 11 = .ok (.iload_n 1, 1) := by decide +kernel
theorem d5_12 : decode jdk_52_method_21_code 12 = .ok (.caload, 1) := by decide +kernel
theorem d5_13 : decode jdk_52_method_21_code 13 = .ok (.istore 6, 2) := by decide +kernel
theorem d5_15 : decode jdk_52_method_21_code 15 = .ok (.iload 6, 2) := by decide +kernel
theorem d5_17 : decode jdk_52_method_21_code 17 = .ok (.sipush 255, 3) := by decide +kernel
theorem d5_20 : decode jdk_52_method_21_code 20 = .ok (.if_icmp .le 6, 3) := by decide +kernel
theorem d5_23 : decode jdk_52_method_21_code 23 = .ok (.iload 5, 2) := by decide +kernel
theorem d5_25 : decode jdk_52_method_21_code 25 = .ok (.ireturn, 1) := by decide +kernel
theorem d5_26 : decode jdk_52_method_21_code 26 = .ok (.aload_n 2, 1) := by decide +kernel
theorem d5_27 : decode jdk_52_method_21_code 27 = .ok (.iload_n 3, 1) := by decide +kernel
theorem d5_28 : decode jdk_52_method_21_code 28 = .ok (.iload 6, 2) := by decide +kernel
theorem d5_30 : decode jdk_52_method_21_code 30 = .ok (.i2b, 1) := by decide +kernel
theorem d5_31 : decode jdk_52_method_21_code 31 = .ok (.bastore, 1) := by decide +kernel
theorem d5_32 : decode jdk_52_method_21_code 32 = .ok (.iinc 1 1, 3) := by decide +kernel
theorem d5_35 : decode jdk_52_method_21_code 35 = .ok (.iinc 3 1, 3) := by decide +kernel
theorem d5_38 : decode jdk_52_method_21_code 38 = .ok (.iinc 5 1, 3) := by decide +kernel
theorem d5_41 : decode jdk_52_method_21_code 41 = .ok (.goto (-38), 3) := by decide +kernel
theorem d5_44 : decode jdk_52_method_21_code 44 = .ok (.iload 4, 2) := by decide +kernel
theorem d5_46 : decode jdk_52_method_21_code 46 = .ok (.ireturn, 1) := by decide +kernel
theorem d5_0 : decode jdk_52_method_21_code 0 = .ok (.iconst 0, 1) := by decide +kernel
theorem d5_1 : decode jdk_52_method_21_code 1 = .ok (.istore 5, 2) := by decide +kernel
def Q_rmCmp (Z : State) (ca : Nat) (kc : ClassId) (nn : Int32) (cs : List Int32) (lb : Nat) (kl : ClassId) (h0 : Heap) (n0 : Nat) (v : Option Value) (h : Heap) (L : List Loc) : Prop := ∃ (r1 : Int32), ∃ (ls : List Value), v = some (.int r1) ∧ Fr n0 L ∧ Keep h0 h [lb] ∧ Arv Z h lb kl .byte nn ls (.int (0 : Int32)) ∧ ((r1 = nn ∧ ls = own_lb cs ∧ own_lat cs) ∨ (¬ (r1 = nn) ∧ ∃ xc, own_at cs r1 xc ∧ (255 : Int32) < xc))
set_option maxRecDepth 65536 in
set_option maxHeartbeats 40000000 in
theorem rmCmp (l : Launch) (Z : State) (a0 : Array Value) (hw : ∀ d ∈ tables_1, d.before a0 Z = true) (ws : List Jvm.Cond) (ca : Nat) (kc : ClassId) (nn : Int32) (cs : List Int32) (lb : Nat) (kl : ClassId) (h0 : Heap) (n0 : Nat) (Z0 : n0 ≤ h0.size) (P1 : Arv Z h0 ca kc .char nn (own_cv cs) (.int (0 : Int32))) (P2 : Arv Z h0 lb kl .byte nn [] (.int (0 : Int32))) (OLD : Old Z n0 h0) (fc : own_fit (own_cv cs) nn) (h34 : cs.length ≤ 34) (gl : n0 ≤ lb) (hne : ca ≠ lb) :
    MetFree l (⟨"java/lang/StringUTF16", "compress", "([CI[BII)I"⟩ : MethodName) (head1 (Jvm.Cond.code (⟨"java/lang/StringUTF16", "compress", "([CI[BII)I"⟩ : MethodName) jdk_52_method_21_code 7 (some .int) :: ws) ({ frames := 0, cells := 0, slots := 0, locals := 0 } : Room)) (fun a U => a = #[(.ref ca), (.int (0 : Int32)), (.ref lb), (.int (0 : Int32)), (.int nn)] ∧ Z.Warmed39 U.vm ∧ U.heap = h0) (fun _ _ _ _ _ => True) (fun _ U o U' => ∃ v L, o = .returned v ∧ Q_rmCmp Z ca kc nn cs lb kl h0 n0 v U'.heap L ∧ FrameEnd U o U' L ({ frames := 0, cells := 0, slots := 0, locals := 0 } : Room).cells ({ frames := 0, cells := 0, slots := 0, locals := 0 } : Room).slots) := by
  refine MetFree.of_bodySF (plainFor_of_name pn_java_lang_StringUTF16) hisR ?_
  intro p e s m args below meth c s₁ Bd hml0 hP hK
  obtain ⟨rfl, hZ, hh⟩ := hP
  have hx := Bd.exec
  have hby := Bd.bytes
  have hml : c.maxLocals = 7 := hml0
  have hown : s.vm.findClass "java/lang/StringUTF16" = some m.cls := findClass_of_methodNamed Bd.named
  have hnm := (name_of_methodNamed Bd.named Bd.method).1
  have X0 : Stand p l e ({ frames := 0, cells := 0, slots := 0, locals := 0 } : Room) s m #[(.ref ca), (.int (0 : Int32)), (.ref lb), (.int (0 : Int32)), (.int nn)] below meth c s₁ [] 0 0 := Stand.of_body Bd
  have e0 : s₁.heap = h0 := by rw [← hh, Bd.state]; rfl
  have N0 := Fr.nil n0
  have pre0 : ∀ t, Steps p.tables e below (s₁.setTop (mkF m 0 #[.val (.ref ca), .val (.int (0 : Int32)), .val (.ref lb), .val (.int (0 : Int32)), .val (.int nn), .unset, .unset] [])) t → Steps p.tables e below (s₁.setTop (entryFrame m #[(.ref ca), (.int (0 : Int32)), (.ref lb), (.int (0 : Int32)), (.int nn)] 7)) t := fun t k => castTop (ef_rmCmp m ca (0 : Int32) lb (0 : Int32) nn) k
  have oz := OLD.1
  have lt_ca : ca < h0.size := P1.lt
  have lt_lb : lb < h0.size := P2.lt
  refine own_go (B := s₁.setTop (mkF m 0 #[.val (.ref ca), .val (.int (0 : Int32)), .val (.ref lb), .val (.int (0 : Int32)), .val (.int nn), .unset, .unset] [])) pre0 ?_
  refine own_nameP (fun P eP => ?_)
  have loop3 : ∀ (r : Nat) (ii : Int32) (u6 : Slot) (Tl_3 : State) (hl_3 : Heap) (Ll_3 : List Loc) (Xl_3 : Stand p l e ({ frames := 0, cells := 0, slots := 0, locals := 0 } : Room) s m #[(.ref ca), (.int (0 : Int32)), (.ref lb), (.int (0 : Int32)), (.int nn)] below meth c Tl_3 Ll_3 0 0) (el_3 : Tl_3.heap = hl_3) (Nl_3 : Fr n0 Ll_3) (Kl_3 : Keep h0 hl_3 [lb]) (OLDl_3 : Old Z n0 hl_3) (Fl_3_0 : Arv Z hl_3 ca kc .char nn (own_cv cs) (.int (0 : Int32))) (Fl_3_1 : Arv Z hl_3 lb kl .byte nn (own_lb (cs.take ii.toInt.toNat)) (.int (0 : Int32))) (hI : own_ci cs ii) (hL : own_lat (cs.take ii.toInt.toNat)) (hu_u6 : u6 = .unset ∨ ∃ w : Int32, u6 = .val (.int w)) (hr : (cs.length - ii.toInt.toNat) = r), ∃ t o, Steps p.tables e below (Tl_3.setTop (mkF m 3 #[.val (.ref ca), .val (.int ii), .val (.ref lb), .val (.int ii), .val (.int nn), .val (.int ii), u6] [])) t ∧ P t o := by
    intro r
    induction r using Nat.strongRecOn with
    | _ r ih3 =>
      intro ii u6 Tl_3 hl_3 Ll_3 Xl_3 el_3 Nl_3 Kl_3 OLDl_3 Fl_3_0 Fl_3_1 hI hL hu_u6 hr
      have lel_3 : h0.size ≤ hl_3.size := Kl_3.1
      have ltl3_ca : ca < hl_3.size := Fl_3_0.lt
      have ltl3_lb : lb < hl_3.size := Fl_3_1.lt
      show ∃ t o, Steps p.tables e below (Tl_3.setTop (mkF m 3 #[.val (.ref ca), .val (.int ii), .val (.ref lb), .val (.int ii), .val (.int nn), .val (.int ii), u6] [])) t ∧ _
      refine own_go (fun _ => XS.iload Xl_3.here hx rfl (hb hby d5_3) rfl) ?_
      refine own_go (fun _ => XS.iload Xl_3.here hx rfl (hb hby d5_5) rfl) ?_
      show ∃ t o, Steps p.tables e below (Tl_3.setTop (mkF m 7 #[.val (.ref ca), .val (.int ii), .val (.ref lb), .val (.int ii), .val (.int nn), .val (.int ii), u6] [(.int nn), (.int ii)])) t ∧ _
      by_cases hc3 : ii < nn
      · refine own_go (fun _ => XS.icmpNo Xl_3.here hx rfl (hb hby d5_7) rfl (tlt hc3).2.1) ?_
        obtain ⟨xc, hat⟩ := own_at_of fc hI.1 hc3
        have hin := own_cin hI hc3
        refine own_go (fun _ => XS.aloadN Xl_3.here hx rfl (hb hby d5_10) rfl rfl) ?_
        refine own_go (fun _ => XS.iloadN Xl_3.here hx rfl (hb hby d5_11) rfl) ?_
        obtain ⟨cl4, Ar4, q4, S4, N4, H4, G4⟩ := id Fl_3_0
        have hin4 : ¬ (ii < 0 ∨ cl4.slots.size ≤ (ii).toNatClampNeg) := inb_of S4 hin
        have hat4 : cl4.slots[(ii).toNatClampNeg]? = some (.int xc) := Has.at H4 hin4 hat.cv
        refine own_go (fun _ => Xl_3.caload hx (j := ii) (v := (.int xc)) (by rw [el_3]; exact Ar4.1) (State.isArrayOf_alike hZ.alike Ar4.2.1) Ar4.2.2 hin4 hat4 (g := (mkF m 12 #[.val (.ref ca), .val (.int ii), .val (.ref lb), .val (.int ii), .val (.int nn), .val (.int ii), u6] [(.int ii), (.ref ca)])) rfl rfl (hb hby d5_12) _) ?_
        have hs5 : storeLocals #[.val (.ref ca), .val (.int ii), .val (.ref lb), .val (.int ii), .val (.int nn), .val (.int ii), u6] 6 (.int xc) = some #[.val (.ref ca), .val (.int ii), .val (.ref lb), .val (.int ii), .val (.int nn), .val (.int ii), .val (.int xc)] := by rcases hu_u6 with rfl | ⟨w, rfl⟩ <;> rfl
        refine own_go (fun _ => XS.istore Xl_3.here hx rfl (hb hby d5_13) rfl (l' := #[.val (.ref ca), .val (.int ii), .val (.ref lb), .val (.int ii), .val (.int nn), .val (.int ii), .val (.int xc)]) hs5) ?_
        refine own_go (fun _ => XS.iload Xl_3.here hx rfl (hb hby d5_15) rfl) ?_
        refine own_go (fun _ => XS.sipush Xl_3.here hx rfl (hb hby d5_17)) ?_
        show ∃ t o, Steps p.tables e below (Tl_3.setTop (mkF m 20 #[.val (.ref ca), .val (.int ii), .val (.ref lb), .val (.int ii), .val (.int nn), .val (.int ii), .val (.int xc)] [(.int (255 : Int32)), (.int xc)])) t ∧ _
        by_cases hc6 : (255 : Int32) < xc
        · refine own_go (fun _ => XS.icmpNo Xl_3.here hx rfl (hb hby d5_20) rfl (tlt hc6).2.2.2) ?_
          refine own_go (fun _ => XS.iload Xl_3.here hx rfl (hb hby d5_23) rfl) ?_
          show ∃ t o, Steps p.tables e below (Tl_3.setTop (mkF m 25 #[.val (.ref ca), .val (.int ii), .val (.ref lb), .val (.int ii), .val (.int nn), .val (.int ii), .val (.int xc)] [(.int ii)])) t ∧ _
          subst eP
          obtain ⟨fs, hr, hrun, hended, hW, hsame⟩ := Xl_3.leave (v := some (.int ii)) (fun h => by rw [Bd.returns] at h; cases h)
          refine ⟨_, _, ?_, hrun, hended, _, _, rfl, ?_, ⟨_, rfl⟩, hW, hsame.mono (by decide) (by decide)⟩
          · exact retI Xl_3 hx Bd.returns (hb hby d5_25) hr
          · show Q_rmCmp Z _ _ _ _ _ _ h0 n0 _ Tl_3.heap _
            rw [el_3]
            exact ⟨ii, (own_lb (cs.take ii.toInt.toNat)), rfl, Nl_3, Kl_3, Fl_3_1, (Or.inr ⟨own_iine fc hat, xc, hat, hc6⟩)⟩
        · refine own_go (fun _ => XS.icmpYes Xl_3.here hx rfl (pc0 := 20) (pc' := 26) rfl (hb hby d5_20) rfl (flt hc6).2.2.2 (by decide) (by decide)) ?_
          have Vp : Arv Z hl_3 lb kl .byte nn (own_lb (cs.take ii.toInt.toNat) ++ List.replicate 1 (Value.int (0 : Int32))) (.int (0 : Int32)) := Arv.pad Fl_3_1 (pad_rep _ (Value.int (0 : Int32)) 1)
          refine own_go (fun _ => XS.aloadN Xl_3.here hx rfl (hb hby d5_26) rfl rfl) ?_
          refine own_go (fun _ => XS.iloadN Xl_3.here hx rfl (hb hby d5_27) rfl) ?_
          refine own_go (fun _ => XS.iload Xl_3.here hx rfl (hb hby d5_28) rfl) ?_
          refine own_go (fun _ => XS.i2b Xl_3.here hx rfl (hb hby d5_30) rfl) ?_
          obtain ⟨cl7, Ar7, q7, S7, N7, H7, G7⟩ := id Vp
          have hin7 : ¬ (ii < 0 ∨ cl7.slots.size ≤ (ii).toNatClampNeg) := inb_of S7 hin
          obtain ⟨T8, h8, X8, e8, W8, st8⟩ := stB Xl_3 hx hZ el_3 Ar7 (j := ii) hin7 (g := (mkF m 31 #[.val (.ref ca), .val (.int ii), .val (.ref lb), .val (.int ii), .val (.int nn), .val (.int ii), .val (.int xc)] [(.int (xc.toInt8.toInt32)), (.int ii), (.ref lb)])) rfl rfl (hb hby d5_31)
          refine own_go st8 ?_
          have le_8 : hl_3.size ≤ h8.size := Nat.le_of_eq W8.size.symm
          have K8 : Keep h0 h8 [lb] := Keep.wr Kl_3 W8 (Or.inl (List.mem_of_getElem? (i := 0) rfl))
          have N8 := Fr.snoc X8 Nl_3 gl
          have V8 : Arv Z h8 lb kl .byte nn ((own_lb (cs.take ii.toInt.toNat) ++ List.replicate 1 (Value.int (0 : Int32))).set (ii).toNatClampNeg (.int (xc.toInt8.toInt32).toInt8.toInt32)) (.int (0 : Int32)) := Arv.set Ar7 q7 S7 N7 H7 G7 (fits_nar_byte _) W8 (ii).toNatClampNeg rfl (by rw [← own_lbt hI]; simp)
          have Vu : Arv Z h8 lb kl .byte nn (own_lb (cs.take (ii + (1 : Int32)).toInt.toNat)) (.int (0 : Int32)) := by have q := V8; rw [own_set1 (own_lbt hI).symm] at q; simp only [own_b2] at q; rw [own_tk hat (own_cilt hI), own_lba]; exact q
          refine own_go (fun _ => XS.iinc X8.here hx rfl (hb hby d5_32) rfl (l' := #[.val (.ref ca), .val (.int (ii + (1 : Int32))), .val (.ref lb), .val (.int ii), .val (.int nn), .val (.int ii), .val (.int xc)]) rfl) ?_
          refine own_go (fun _ => XS.iinc X8.here hx rfl (hb hby d5_35) rfl (l' := #[.val (.ref ca), .val (.int (ii + (1 : Int32))), .val (.ref lb), .val (.int (ii + (1 : Int32))), .val (.int nn), .val (.int ii), .val (.int xc)]) rfl) ?_
          refine own_go (fun _ => XS.iinc X8.here hx rfl (hb hby d5_38) rfl (l' := #[.val (.ref ca), .val (.int (ii + (1 : Int32))), .val (.ref lb), .val (.int (ii + (1 : Int32))), .val (.int nn), .val (.int (ii + (1 : Int32))), .val (.int xc)]) rfl) ?_
          refine own_go (fun _ => XS.goto X8.here hx rfl (pc0 := 41) (pc' := 3) rfl (hb hby d5_41) (by decide) (by decide)) ?_
          have F9 := (Old.wr OLDl_3 W8 gl)
          have F10 := (Arv.other Fl_3_0 W8 hne)
          show ∃ t o, Steps p.tables e below (T8.setTop (mkF m 3 #[.val (.ref ca), .val (.int (ii + (1 : Int32))), .val (.ref lb), .val (.int (ii + (1 : Int32))), .val (.int nn), .val (.int (ii + (1 : Int32))), .val (.int xc)] [])) t ∧ _
          exact ih3 _ (by have q := own_cim hI hat; omega) (ii + (1 : Int32)) (.val (.int xc)) _ _ _ X8 e8 N8 K8 F9 F10 Vu (own_ciS hI hat) (own_latS hat (own_cilt hI) hL hc6) (Or.inr ⟨_, rfl⟩) rfl
      · refine own_go (fun _ => XS.icmpYes Xl_3.here hx rfl (pc0 := 7) (pc' := 44) rfl (hb hby d5_7) rfl (flt hc3).2.1 (by decide) (by decide)) ?_
        have Vu : Arv Z hl_3 lb kl .byte nn (own_lb cs) (.int (0 : Int32)) := by have q := Fl_3_1; rw [own_ciE fc hI hc3] at q; exact q
        have hLa : own_lat cs := by have q := hL; rw [own_ciE fc hI hc3] at q; exact q
        refine own_go (fun _ => XS.iload Xl_3.here hx rfl (hb hby d5_44) rfl) ?_
        show ∃ t o, Steps p.tables e below (Tl_3.setTop (mkF m 46 #[.val (.ref ca), .val (.int ii), .val (.ref lb), .val (.int ii), .val (.int nn), .val (.int ii), u6] [(.int nn)])) t ∧ _
        subst eP
        obtain ⟨fs, hr, hrun, hended, hW, hsame⟩ := Xl_3.leave (v := some (.int nn)) (fun h => by rw [Bd.returns] at h; cases h)
        refine ⟨_, _, ?_, hrun, hended, _, _, rfl, ?_, ⟨_, rfl⟩, hW, hsame.mono (by decide) (by decide)⟩
        · exact retI Xl_3 hx Bd.returns (hb hby d5_46) hr
        · show Q_rmCmp Z _ _ _ _ _ _ h0 n0 _ Tl_3.heap _
          rw [el_3]
          exact ⟨nn, (own_lb cs), rfl, Nl_3, Kl_3, Vu, (Or.inl ⟨rfl, rfl, hLa⟩)⟩
  show ∃ t o, Steps p.tables e below (s₁.setTop (mkF m 0 #[.val (.ref ca), .val (.int (0 : Int32)), .val (.ref lb), .val (.int (0 : Int32)), .val (.int nn), .unset, .unset] [])) t ∧ _
  refine own_go (fun _ => XS.iconst X0.here hx rfl (hb hby d5_0)) ?_
  refine own_go (fun _ => XS.istore X0.here hx rfl (hb hby d5_1) rfl (l' := #[.val (.ref ca), .val (.int (0 : Int32)), .val (.ref lb), .val (.int (0 : Int32)), .val (.int nn), .val (.int (0 : Int32)), .unset]) rfl) ?_
  have V0 : Arv Z h0 lb kl .byte nn (own_lb (cs.take (0 : Int32).toInt.toNat)) (.int (0 : Int32)) := P2
  show ∃ t o, Steps p.tables e below (s₁.setTop (mkF m 3 #[.val (.ref ca), .val (.int (0 : Int32)), .val (.ref lb), .val (.int (0 : Int32)), .val (.int nn), .val (.int (0 : Int32)), .unset] [])) t ∧ _
  exact loop3 _ (0 : Int32) (.unset) _ _ _ X0 e0 N0 (Keep.refl h0 [lb]) OLD P1 V0 (own_ci0 (by omega)) (show own_lat (cs.take (0 : Int32).toInt.toNat) from own_lat0) (Or.inl rfl) rfl
theorem ef_rmCb (m : MethodId) (x0 : Nat) (x1 : Int32) (x2 : Int32) : entryFrame m #[(.ref x0), (.int x1), (.int x2)] 6 = mkF m 0 #[.val (.ref x0), .val (.int x1), .val (.int x2), .unset, .unset, .unset] [] := by first | (simp [entryFrame, mkF, argsToLocals, Value.category]; done) | rfl
theorem d4_0 : decode jdk_52_method_16_code 0 = .ok (.iload_n 2, 1) := by decide +kernel
theorem d4_1 : decode jdk_52_method_16_code 1 = .ok (.newarray .byte, 2) := by decide +kernel
theorem d4_3 : decode jdk_52_method_16_code 3 = .ok (.astore_n 3, 1) := by decide +kernel
theorem d4_4 : decode jdk_52_method_16_code 4 = .ok (.aload_n 0, 1) := by decide +kernel
theorem d4_5 : decode jdk_52_method_16_code 5 = .ok (.iload_n 1, 1) := by decide +kernel
theorem d4_6 : decode jdk_52_method_16_code 6 = .ok (.aload_n 3, 1) := by decide +kernel
theorem d4_7 : decode jdk_52_method_16_code 7 = .ok (.iconst 0, 1) := by decide +kernel
theorem d4_8 : decode jdk_52_method_16_code 8 = .ok (.iload_n 2, 1) := by decide +kernel
theorem d4_9 : decode jdk_52_method_16_code 9 = .ok (.invokestatic 115, 3) := by decide +kernel
theorem pd__28_5bCI_5bBII_29I : parseMethodDescriptor "([CI[BII)I" = some ⟨[(.array .char), .int, (.array .byte), .int, .int], some .int⟩ := by decide +kernel
theorem d4_12 : decode jdk_52_method_16_code 12 = .ok (.istore 4, 2) := by decide +kernel
theorem d4_14 : decode jdk_52_method_16_code 14 = .ok (.iload 4, 2) := by decide +kernel
theorem d4_16 : decode jdk_52_method_16_code 16 = .ok (.iload_n 2, 1) := by decide +kernel
theorem d4_17 : decode jdk_52_method_16_code 17 = .ok (.if_icmp .eq 40, 3) := by decide +kernel
theorem d4_57 : decode jdk_52_method_16_code 57 = .ok (.aload_n 3, 1) := by decide +kernel
theorem d4_58 : decode jdk_52_method_16_code 58 = .ok (.areturn, 1) := by decide +kernel
theorem d4_20 : decode jdk_52_method_16_code 20 = .ok (.aload_n 0, 1) := by decide +kernel
theorem d4_21 : decode jdk_52_method_16_code 21 = .ok (.iload_n 1, 1) := by decide +kernel
theorem d4_22 : decode jdk_52_method_16_code 22 = .ok (.iload_n 2, 1) := by decide +kernel
theorem d4_23 : decode jdk_52_method_16_code 23 = .ok (.invokestatic 119, 3) := by decide +kernel
theorem pd__28_5bCII_29_5bB : parseMethodDescriptor "([CII)[B" = some ⟨[(.array .char), .int, .int], some (.array .byte)⟩ := by decide +kernel
theorem d4_26 : decode jdk_52_method_16_code 26 = .ok (.astore 5, 2) := by decide +kernel
theorem d4_28 : decode jdk_52_method_16_code 28 = .ok (.aload 5, 2) := by decide +kernel
theorem d4_30 : decode jdk_52_method_16_code 30 = .ok (.iload 4, 2) := by decide +kernel
theorem d4_32 : decode jdk_52_method_16_code 32 = .ok (.invokestatic 71, 3) := by decide +kernel
theorem pd__28_5bBI_29C : parseMethodDescriptor "([BI)C" = some ⟨[(.array .byte), .int], some .char⟩ := by decide +kernel
theorem d4_35 : decode jdk_52_method_16_code 35 = .ok (.sipush 255, 3) := by decide +kernel
theorem d4_38 : decode jdk_52_method_16_code 38 = .ok (.if_icmp .gt 16, 3) := by decide +kernel
theorem d4_54 : decode jdk_52_method_16_code 54 = .ok (.aload 5, 2) := by decide +kernel
theorem d4_56 : decode jdk_52_method_16_code 56 = .ok (.areturn, 1) := by decide +kernel
def Q_rmCb (Z : State) (ca : Nat) (kc : ClassId) (nn : Int32) (cs : List Int32) (h0 : Heap) (n0 : Nat) (v : Option Value) (h : Heap) (L : List Loc) : Prop := ∃ (ob : Nat), ∃ (ko : ClassId), ∃ (nx : Int32), ∃ (ls : List Value), v = some (.ref ob) ∧ Fr n0 L ∧ Keep h0 h [] ∧ Arv Z h ob ko .byte nx ls (.int (0 : Int32)) ∧ ((own_lat cs ∧ ls = own_lb cs ∧ nx = nn) ∨ (¬ own_lat cs ∧ ls = own_u8 cs ∧ nx.toInt = 2 * nn.toInt)) ∧ (h0.size ≤ ob)
set_option maxRecDepth 65536 in
set_option maxHeartbeats 40000000 in
theorem rmCb (l : Launch) (Z : State) (a0 : Array Value) (hw : ∀ d ∈ tables_1, d.before a0 Z = true) (ws : List Jvm.Cond) (ca : Nat) (kc : ClassId) (nn : Int32) (cs : List Int32) (h0 : Heap) (n0 : Nat) (Z0 : n0 ≤ h0.size) (P1 : Arv Z h0 ca kc .char nn (own_cv cs) (.int (0 : Int32))) (OLD : Old Z n0 h0) (P2 : Sta Z Z.heap "java/lang/StringUTF16" "$assertionsDisabled" "Z" (.int (1 : Int32))) (P3 : Sta Z Z.heap "java/lang/StringUTF16" "HI_BYTE_SHIFT" "I" (.int (0 : Int32))) (P4 : Sta Z Z.heap "java/lang/StringUTF16" "LO_BYTE_SHIFT" "I" (.int (8 : Int32))) (fc : own_fit (own_cv cs) nn) (h34 : cs.length ≤ 34) (h16 : ∀ x ∈ cs, own_c16 x) :
    MetFree l (⟨"java/lang/StringUTF16", "compress", "([CII)[B"⟩ : MethodName) (head1 (Jvm.Cond.code (⟨"java/lang/StringUTF16", "compress", "([CII)[B"⟩ : MethodName) jdk_52_method_16_code 6 (some (.array .byte)) :: ws) ({ frames := 3, cells := 2, slots := 102, locals := 40 } : Room)) (fun a U => a = #[(.ref ca), (.int (0 : Int32)), (.int nn)] ∧ Z.Warmed39 U.vm ∧ U.heap = h0) (fun _ _ _ _ _ => True) (fun _ U o U' => ∃ v L, o = .returned v ∧ Q_rmCb Z ca kc nn cs h0 n0 v U'.heap L ∧ FrameEnd U o U' L ({ frames := 3, cells := 2, slots := 102, locals := 40 } : Room).cells ({ frames := 3, cells := 2, slots := 102, locals := 40 } : Room).slots) := by
  refine MetFree.of_bodySF (plainFor_of_name pn_java_lang_StringUTF16) hisR ?_
  intro p e s m args below meth c s₁ Bd hml0 hP hK
  obtain ⟨rfl, hZ, hh⟩ := hP
  have hx := Bd.exec
  have hby := Bd.bytes
  have hml : c.maxLocals = 6 := hml0
  have hown : s.vm.findClass "java/lang/StringUTF16" = some m.cls := findClass_of_methodNamed Bd.named
  have hnm := (name_of_methodNamed Bd.named Bd.method).1
  have X0 : Stand p l e ({ frames := 3, cells := 2, slots := 102, locals := 40 } : Room) s m #[(.ref ca), (.int (0 : Int32)), (.int nn)] below meth c s₁ [] 0 0 := Stand.of_body Bd
  have e0 : s₁.heap = h0 := by rw [← hh, Bd.state]; rfl
  have N0 := Fr.nil n0
  have pre0 : ∀ t, Steps p.tables e below (s₁.setTop (mkF m 0 #[.val (.ref ca), .val (.int (0 : Int32)), .val (.int nn), .unset, .unset, .unset] [])) t → Steps p.tables e below (s₁.setTop (entryFrame m #[(.ref ca), (.int (0 : Int32)), (.int nn)] 6)) t := fun t k => castTop (ef_rmCb m ca (0 : Int32) nn) k
  have w_17 := hw _ (List.mem_of_getElem? (i := 17) rfl)
  have w_209 := hw _ (List.mem_of_getElem? (i := 209) rfl)
  have w_22 := hw _ (List.mem_of_getElem? (i := 22) rfl)
  have w_225 := hw _ (List.mem_of_getElem? (i := 225) rfl)
  have oz := OLD.1
  have lt_ca : ca < h0.size := P1.lt
  refine own_go (B := s₁.setTop (mkF m 0 #[.val (.ref ca), .val (.int (0 : Int32)), .val (.int nn), .unset, .unset, .unset] [])) pre0 ?_
  show ∃ t o, Steps p.tables e below (s₁.setTop (mkF m 0 #[.val (.ref ca), .val (.int (0 : Int32)), .val (.int nn), .unset, .unset, .unset] [])) t ∧ _
  refine own_go (fun _ => XS.iloadN X0.here hx rfl (hb hby d4_0) rfl) ?_
  show ∃ t o, Steps p.tables e below (s₁.setTop (mkF m 1 #[.val (.ref ca), .val (.int (0 : Int32)), .val (.int nn), .unset, .unset, .unset] [(.int nn)])) t ∧ _
  obtain ⟨T5, h5, k5, X5, e5, E5, A5, st5⟩ := newP (aty := .byte) X0 hx hZ (hw _ (List.mem_of_getElem? (i := 19) rfl)) e0 (g := (mkF m 1 #[.val (.ref ca), .val (.int (0 : Int32)), .val (.int nn), .unset, .unset, .unset] [(.int nn)])) rfl (hb hby d4_1) rfl (own_fit.nn fc) (cap := 34) (by rw [own_fit.cl fc, own_cvl]; exact h34) (by decide) (by decide) (by decide)
  obtain ⟨b5, g5⟩ : ∃ z, z = h0.size := ⟨_, rfl⟩
  rw [← g5] at A5 st5
  refine own_go st5 ?_
  have le_5 : h0.size ≤ h5.size := E5.1
  have lt_b5 : b5 < h5.size := A5.lt
  have V_b5 : Arv Z h5 b5 k5 .byte nn [] (.int (0 : Int32)) := Arv.new A5 (own_fit.nn fc)
  have K5 : Keep h0 h5 [] := Keep.ext (Keep.refl h0 []) E5
  refine own_go (fun _ => XS.astoreN X5.here hx rfl (hb hby d4_3) rfl rfl (l' := #[.val (.ref ca), .val (.int (0 : Int32)), .val (.int nn), .val (.ref b5), .unset, .unset]) rfl) ?_
  refine own_go (fun _ => XS.aloadN X5.here hx rfl (hb hby d4_4) rfl rfl) ?_
  refine own_go (fun _ => XS.iloadN X5.here hx rfl (hb hby d4_5) rfl) ?_
  refine own_go (fun _ => XS.aloadN X5.here hx rfl (hb hby d4_6) rfl rfl) ?_
  refine own_go (fun _ => XS.iconst X5.here hx rfl (hb hby d4_7)) ?_
  refine own_go (fun _ => XS.iloadN X5.here hx rfl (hb hby d4_8) rfl) ?_
  show ∃ t o, Steps p.tables e below (T5.setTop (mkF m 9 #[.val (.ref ca), .val (.int (0 : Int32)), .val (.int nn), .val (.ref b5), .unset, .unset] [(.int nn), (.int (0 : Int32)), (.ref b5), (.int (0 : Int32)), (.ref ca)])) t ∧ _
  have F6 := (P1.ext E5)
  have F7 := (OLD.ext E5)
  have ge8 : n0 ≤ b5 := by omega
  have ne9 : ca ≠ b5 := own_ne (by omega)
  have zl10 : n0 ≤ h5.size := by omega
  obtain ⟨_, _, ⟨T11, L11, k11, n11⟩, -, X11, ⟨Lc11, hQ11, l11, y11, z11⟩, st11⟩ := Jvm.LawKit.callS X5 hx (y := (⟨"java/lang/StringUTF16", "compress", "([CI[BII)I"⟩ : MethodName)) hown (mvT hZ (hw _ (List.mem_of_getElem? (i := 20) rfl))) (mvT hZ (hw _ (List.mem_of_getElem? (i := 21) rfl))) (mvT hZ w_17) (mvT hZ w_22) (by decide) (backOf (W := 0) (rmCmp l Z a0 hw [] ca kc nn cs b5 k5 h5 n0 zl10 F6 V_b5 F7 fc h34 ge8 ne9) hZ w_22 w_17 (by decide) (by decide)) (g := (mkF m 9 #[.val (.ref ca), .val (.int (0 : Int32)), .val (.int nn), .val (.ref b5), .unset, .unset] [(.int nn), (.int (0 : Int32)), (.ref b5), (.int (0 : Int32)), (.ref ca)])) rfl (by rw [hml]; rfl) (argsL := [(.ref ca), (.int (0 : Int32)), (.ref b5), (.int (0 : Int32)), (.int nn)]) (rest := []) (lenOf pd__28_5bCI_5bBII_29I rfl) rfl (by show 2 * 0 + _ ≤ _; exact Nat.le_of_eq rfl) (hb hby d4_9) (fun _ _ => ⟨rfl, e5, (by decide : 1 + 0 ≤ _), (by decide : 34 + 0 ≤ _)⟩)
  dsimp only [Pt.U, Pt.locs, Pt.cells, Pt.slots] at X11 l11 y11 z11 st11 hQ11
  rw [l11, y11, z11] at X11
  obtain ⟨r1_11, ls_11, rfl, Nq11, Kp11, G11_0, H11_0⟩ := hQ11
  have N11 := Fr.app N0 Nq11
  refine own_go st11 ?_
  have le_11 : h5.size ≤ T11.heap.size := Kp11.1
  have sz12 : h0.size ≤ b5 := by omega
  have K11 : Keep h0 T11.heap [] := Keep.trans K5 Kp11 (allS (Or.inr sz12) all0)
  refine own_go (fun _ => XS.istore X11.here hx rfl (hb hby d4_12) rfl (l' := #[.val (.ref ca), .val (.int (0 : Int32)), .val (.int nn), .val (.ref b5), .val (.int r1_11), .unset]) rfl) ?_
  refine own_go (fun _ => XS.iload X11.here hx rfl (hb hby d4_14) rfl) ?_
  refine own_go (fun _ => XS.iloadN X11.here hx rfl (hb hby d4_16) rfl) ?_
  show ∃ t o, Steps p.tables e below (T11.setTop (mkF m 17 #[.val (.ref ca), .val (.int (0 : Int32)), .val (.int nn), .val (.ref b5), .val (.int r1_11), .unset] [(.int nn), (.int r1_11)])) t ∧ _
  rcases H11_0 with ⟨hr, hls, hla⟩ | ⟨hr, xc, hat, hbig⟩
  · show ∃ t o, Steps p.tables e below (T11.setTop (mkF m 17 #[.val (.ref ca), .val (.int (0 : Int32)), .val (.int nn), .val (.ref b5), .val (.int r1_11), .unset] [(.int nn), (.int r1_11)])) t ∧ _
    refine own_go (fun _ => XS.icmpYes X11.here hx rfl (pc0 := 17) (pc' := 57) rfl (hb hby d4_17) rfl (teq hr).1 (by decide) (by decide)) ?_
    have Vl : Arv Z T11.heap b5 k5 .byte nn (own_lb cs) (.int (0 : Int32)) := by have q := G11_0; rw [hls] at q; exact q
    refine own_go (fun _ => XS.aloadN X11.here hx rfl (hb hby d4_57) rfl rfl) ?_
    show ∃ t o, Steps p.tables e below (T11.setTop (mkF m 58 #[.val (.ref ca), .val (.int (0 : Int32)), .val (.int nn), .val (.ref b5), .val (.int r1_11), .unset] [(.ref b5)])) t ∧ _
    obtain ⟨fs, hr, hrun, hended, hW, hsame⟩ := X11.leave (v := some (.ref b5)) (fun h => by rw [Bd.returns] at h; cases h)
    refine ⟨_, _, ?_, hrun, hended, _, _, rfl, ?_, ⟨_, rfl⟩, hW, hsame.mono (by decide) (by decide)⟩
    · jvm_step X11.here [X11.here.top, hx, (hb hby d4_58), X11.method', Bd.returns, Value.isRef, FieldType.isReference]
      first | (intro acts; rw [hr _ acts rfl rfl rfl]) | rw [hr _ _ rfl rfl rfl]
      exact Steps.refl _
    · show Q_rmCb Z _ _ _ _ h0 n0 _ T11.heap _
      exact ⟨b5, k5, nn, (own_lb cs), rfl, N11, K11, Vl, (Or.inl ⟨hla, rfl, rfl⟩), (by omega)⟩
  · show ∃ t o, Steps p.tables e below (T11.setTop (mkF m 17 #[.val (.ref ca), .val (.int (0 : Int32)), .val (.int nn), .val (.ref b5), .val (.int r1_11), .unset] [(.int nn), (.int r1_11)])) t ∧ _
    refine own_go (fun _ => XS.icmpNo X11.here hx rfl (hb hby d4_17) rfl (feq hr).1) ?_
    refine own_go (fun _ => XS.aloadN X11.here hx rfl (hb hby d4_20) rfl rfl) ?_
    refine own_go (fun _ => XS.iloadN X11.here hx rfl (hb hby d4_21) rfl) ?_
    refine own_go (fun _ => XS.iloadN X11.here hx rfl (hb hby d4_22) rfl) ?_
    show ∃ t o, Steps p.tables e below (T11.setTop (mkF m 23 #[.val (.ref ca), .val (.int (0 : Int32)), .val (.int nn), .val (.ref b5), .val (.int r1_11), .unset] [(.int nn), (.int (0 : Int32)), (.ref ca)])) t ∧ _
    have F13 := (Arv.keep F6 Kp11 (ninS ne9 nin0))
    have F14 := (Old.keep F7 Kp11 (allS ge8 all0))
    have zl15 : n0 ≤ T11.heap.size := by omega
    obtain ⟨_, _, ⟨T16, L16, k16, n16⟩, -, X16, ⟨Lc16, hQ16, l16, y16, z16⟩, st16⟩ := Jvm.LawKit.callS X11 hx (y := (⟨"java/lang/StringUTF16", "toBytes", "([CII)[B"⟩ : MethodName)) hown (mvT hZ (hw _ (List.mem_of_getElem? (i := 207) rfl))) (mvT hZ (hw _ (List.mem_of_getElem? (i := 208) rfl))) (mvT hZ w_17) (mvT hZ w_209) (by decide) (backOf (W := 0) (rmTby l Z a0 hw [] ca kc nn cs T11.heap n0 zl15 F13 F14 P2 P3 P4 fc h34) hZ w_209 w_17 (by decide) (by decide)) (g := (mkF m 23 #[.val (.ref ca), .val (.int (0 : Int32)), .val (.int nn), .val (.ref b5), .val (.int r1_11), .unset] [(.int nn), (.int (0 : Int32)), (.ref ca)])) rfl (by rw [hml]; rfl) (argsL := [(.ref ca), (.int (0 : Int32)), (.int nn)]) (rest := []) (lenOf pd__28_5bCII_29_5bB rfl) rfl (by show 2 * 0 + _ ≤ _; exact Nat.le_of_eq rfl) (hb hby d4_23) (fun _ _ => ⟨rfl, rfl, (by decide : 1 + 1 ≤ _), (by decide : 34 + 68 ≤ _)⟩)
    dsimp only [Pt.U, Pt.locs, Pt.cells, Pt.slots] at X16 l16 y16 z16 st16 hQ16
    rw [l16, y16, z16] at X16
    obtain ⟨nb_16, kn_16, n2_16, rfl, Nq16, Kp16, G16_0, G16_1, H16_0, H16_1⟩ := hQ16
    have N16 := Fr.app N11 Nq16
    refine own_go st16 ?_
    have le_16 : T11.heap.size ≤ T16.heap.size := Kp16.1
    have K16 : Keep h0 T16.heap [] := Keep.trans K11 Kp16 all0
    have lt_nb_16 : nb_16 < T16.heap.size := (G16_0).lt
    refine own_go (fun _ => XS.astore X16.here hx rfl (hb hby d4_26) rfl rfl (l' := #[.val (.ref ca), .val (.int (0 : Int32)), .val (.int nn), .val (.ref b5), .val (.int r1_11), .val (.ref nb_16)]) rfl) ?_
    refine own_go (fun _ => XS.aload X16.here hx rfl (hb hby d4_28) rfl rfl) ?_
    refine own_go (fun _ => XS.iload X16.here hx rfl (hb hby d4_30) rfl) ?_
    show ∃ t o, Steps p.tables e below (T16.setTop (mkF m 32 #[.val (.ref ca), .val (.int (0 : Int32)), .val (.int nn), .val (.ref b5), .val (.int r1_11), .val (.ref nb_16)] [(.int r1_11), (.ref nb_16)])) t ∧ _
    have F17 := (Old.keep F14 Kp16 all0)
    have zl18 : n0 ≤ T16.heap.size := by omega
    obtain ⟨_, _, ⟨T19, L19, k19, n19⟩, -, X19, ⟨Lc19, hQ19, l19, y19, z19⟩, st19⟩ := Jvm.LawKit.callS X16 hx (y := (⟨"java/lang/StringUTF16", "getChar", "([BI)C"⟩ : MethodName)) hown (mvT hZ (hw _ (List.mem_of_getElem? (i := 223) rfl))) (mvT hZ (hw _ (List.mem_of_getElem? (i := 224) rfl))) (mvT hZ w_17) (mvT hZ w_225) (by decide) (backOf (W := 0) (rmGch l Z a0 hw [] nb_16 kn_16 n2_16 cs r1_11 xc T16.heap n0 zl18 G16_1 F17 P2 P3 P4 (hat : own_at cs r1_11 xc) h34 (by have q := H16_0; have f := fc; unfold own_fit at f; rw [own_cvl] at f; omega) (h16 xc hat.mem : own_c16 xc)) hZ w_225 w_17 (by decide) (by decide)) (g := (mkF m 32 #[.val (.ref ca), .val (.int (0 : Int32)), .val (.int nn), .val (.ref b5), .val (.int r1_11), .val (.ref nb_16)] [(.int r1_11), (.ref nb_16)])) rfl (by rw [hml]; rfl) (argsL := [(.ref nb_16), (.int r1_11)]) (rest := []) (lenOf pd__28_5bBI_29C rfl) rfl (by show 2 * 0 + _ ≤ _; exact Nat.le_of_eq rfl) (hb hby d4_32) (fun _ _ => ⟨rfl, rfl, (by decide : 2 + 0 ≤ _), (by decide : 102 + 0 ≤ _)⟩)
    dsimp only [Pt.U, Pt.locs, Pt.cells, Pt.slots] at X19 l19 y19 z19 st19 hQ19
    rw [l19, y19, z19] at X19
    obtain ⟨rfl, Nq19, e19⟩ := hQ19
    have N19 := Fr.app N16 Nq19
    refine own_go st19 ?_
    refine own_go (fun _ => XS.sipush X19.here hx rfl (hb hby d4_35)) ?_
    show ∃ t o, Steps p.tables e below (T19.setTop (mkF m 38 #[.val (.ref ca), .val (.int (0 : Int32)), .val (.int nn), .val (.ref b5), .val (.int r1_11), .val (.ref nb_16)] [(.int (255 : Int32)), (.int xc)])) t ∧ _
    have hd20 : (255 : Int32) < xc := hbig
    refine own_go (fun _ => XS.icmpYes X19.here hx rfl (pc0 := 38) (pc' := 54) rfl (hb hby d4_38) rfl (tlt hd20).2.2.1 (by decide) (by decide)) ?_
    refine own_go (fun _ => XS.aload X19.here hx rfl (hb hby d4_54) rfl rfl) ?_
    show ∃ t o, Steps p.tables e below (T19.setTop (mkF m 56 #[.val (.ref ca), .val (.int (0 : Int32)), .val (.int nn), .val (.ref b5), .val (.int r1_11), .val (.ref nb_16)] [(.ref nb_16)])) t ∧ _
    obtain ⟨fs, hr, hrun, hended, hW, hsame⟩ := X19.leave (v := some (.ref nb_16)) (fun h => by rw [Bd.returns] at h; cases h)
    refine ⟨_, _, ?_, hrun, hended, _, _, rfl, ?_, ⟨_, rfl⟩, hW, hsame.mono (by decide) (by decide)⟩
    · jvm_step X19.here [X19.here.top, hx, (hb hby d4_56), X19.method', Bd.returns, Value.isRef, FieldType.isReference]
      first | (intro acts; rw [hr _ acts rfl rfl rfl]) | rw [hr _ _ rfl rfl rfl]
      exact Steps.refl _
    · show Q_rmCb Z _ _ _ _ h0 n0 _ T19.heap _
      rw [e19]
      exact ⟨nb_16, kn_16, n2_16, (own_u8 cs), rfl, N19, K16, G16_1, (Or.inr ⟨own_hit hat hbig, rfl, H16_0⟩), (by omega)⟩
theorem ef_rmCf0 (m : MethodId) (x0 : Nat) (x1 : Int32) : entryFrame m #[(.ref x0), (.int x1)] 2 = mkF m 0 #[.val (.ref x0), .val (.int x1)] [] := by first | (simp [entryFrame, mkF, argsToLocals, Value.category]; done) | rfl
theorem d6_0 : decode jdk_52_method_15_code 0 = .ok (.iload_n 1, 1) := by decide +kernel
theorem d6_1 : decode jdk_52_method_15_code 1 = .ok (.aload_n 0, 1) := by decide +kernel
theorem d6_2 : decode jdk_52_method_15_code 2 = .ok (.arraylength, 1) := by decide +kernel
theorem d6_3 : decode jdk_52_method_15_code 3 = .ok (.isub, 1) := by decide +kernel
theorem d6_4 : decode jdk_52_method_15_code 4 = .ok (.bipush 31, 2) := by decide +kernel
theorem d6_6 : decode jdk_52_method_15_code 6 = .ok (.iushr, 1) := by decide +kernel
theorem d6_7 : decode jdk_52_method_15_code 7 = .ok (.i2b, 1) := by decide +kernel
theorem d6_8 : decode jdk_52_method_15_code 8 = .ok (.ireturn, 1) := by decide +kernel
def Q_rmCf0 (Z : State) (ob : Nat) (ko : ClassId) (nn : Int32) (nx : Int32) (ls : List Value) (h0 : Heap) (n0 : Nat) (v : Option Value) (h : Heap) (L : List Loc) : Prop := v = some (.int (0 : Int32)) ∧ Fr n0 L ∧ h = h0
set_option maxRecDepth 65536 in
set_option maxHeartbeats 40000000 in
theorem rmCf0 (l : Launch) (Z : State) (a0 : Array Value) (hw : ∀ d ∈ tables_1, d.before a0 Z = true) (ws : List Jvm.Cond) (ob : Nat) (ko : ClassId) (nn : Int32) (nx : Int32) (ls : List Value) (h0 : Heap) (n0 : Nat) (Z0 : n0 ≤ h0.size) (P1 : Arv Z h0 ob ko .byte nx ls (.int (0 : Int32))) (OLD : Old Z n0 h0) (he : nx = nn) :
    MetFree l (⟨"java/lang/StringUTF16", "coderFromArrayLen", "([BI)B"⟩ : MethodName) (head1 (Jvm.Cond.code (⟨"java/lang/StringUTF16", "coderFromArrayLen", "([BI)B"⟩ : MethodName) jdk_52_method_15_code 2 (some .byte) :: ws) ({ frames := 0, cells := 0, slots := 0, locals := 0 } : Room)) (fun a U => a = #[(.ref ob), (.int nn)] ∧ Z.Warmed39 U.vm ∧ U.heap = h0) (fun _ _ _ _ _ => True) (fun _ U o U' => ∃ v L, o = .returned v ∧ Q_rmCf0 Z ob ko nn nx ls h0 n0 v U'.heap L ∧ FrameEnd U o U' L ({ frames := 0, cells := 0, slots := 0, locals := 0 } : Room).cells ({ frames := 0, cells := 0, slots := 0, locals := 0 } : Room).slots) := by
  refine MetFree.of_bodySF (plainFor_of_name pn_java_lang_StringUTF16) hisR ?_
  intro p e s m args below meth c s₁ Bd hml0 hP hK
  obtain ⟨rfl, hZ, hh⟩ := hP
  have hx := Bd.exec
  have hby := Bd.bytes
  have hml : c.maxLocals = 2 := hml0
  have hown : s.vm.findClass "java/lang/StringUTF16" = some m.cls := findClass_of_methodNamed Bd.named
  have hnm := (name_of_methodNamed Bd.named Bd.method).1
  have X0 : Stand p l e ({ frames := 0, cells := 0, slots := 0, locals := 0 } : Room) s m #[(.ref ob), (.int nn)] below meth c s₁ [] 0 0 := Stand.of_body Bd
  have e0 : s₁.heap = h0 := by rw [← hh, Bd.state]; rfl
  have N0 := Fr.nil n0
  have pre0 : ∀ t, Steps p.tables e below (s₁.setTop (mkF m 0 #[.val (.ref ob), .val (.int nn)] [])) t → Steps p.tables e below (s₁.setTop (entryFrame m #[(.ref ob), (.int nn)] 2)) t := fun t k => castTop (ef_rmCf0 m ob nn) k
  have oz := OLD.1
  have lt_ob : ob < h0.size := P1.lt
  refine own_go (B := s₁.setTop (mkF m 0 #[.val (.ref ob), .val (.int nn)] [])) pre0 ?_
  show ∃ t o, Steps p.tables e below (s₁.setTop (mkF m 0 #[.val (.ref ob), .val (.int nn)] [])) t ∧ _
  refine own_go (fun _ => XS.iloadN X0.here hx rfl (hb hby d6_0) rfl) ?_
  refine own_go (fun _ => XS.aloadN X0.here hx rfl (hb hby d6_1) rfl rfl) ?_
  obtain ⟨cl2, Ar2, q2, S2, N2, H2, G2⟩ := id P1
  have ln2 : cl2.slots.size.toInt32 = nx := len_of S2 N2
  have al2 := X0.arraylength hx (by rw [e0]; exact Ar2.1) (State.isArrayOf_alike hZ.alike Ar2.2.1) (g := (mkF m 2 #[.val (.ref ob), .val (.int nn)] [(.ref ob), (.int nn)])) rfl rfl (hb hby d6_2)
  rw [ln2] at al2
  refine own_go al2 ?_
  refine own_go (fun _ => XS.isub X0.here hx rfl (hb hby d6_3) rfl) ?_
  refine own_go (fun _ => XS.bipush X0.here hx rfl (hb hby d6_4)) ?_
  refine own_go (fun _ => XS.iushr X0.here hx rfl (hb hby d6_6) rfl) ?_
  refine own_go (fun _ => XS.i2b X0.here hx rfl (hb hby d6_7) rfl) ?_
  show ∃ t o, Steps p.tables e below (s₁.setTop (mkF m 8 #[.val (.ref ob), .val (.int nn)] [(.int ((((nn - nx).toUInt32 >>> ((31 : Int32) &&& 31).toUInt32).toInt32).toInt8.toInt32))])) t ∧ _
  obtain ⟨fs, hr, hrun, hended, hW, hsame⟩ := X0.leave (v := some (.int (nar .byte ((((nn - nx).toUInt32 >>> ((31 : Int32) &&& 31).toUInt32).toInt32).toInt8.toInt32)))) (fun h => by rw [Bd.returns] at h; cases h)
  refine ⟨_, _, ?_, hrun, hended, _, _, rfl, ?_, ⟨_, rfl⟩, hW, hsame.mono (by decide) (by decide)⟩
  · exact retN X0 hx (t := .byte) Bd.returns (by simp) (hb hby d6_8) hr
  · show Q_rmCf0 Z _ _ _ _ _ h0 n0 _ s₁.heap _
    rw [e0]
    exact ⟨(by rw [he]; exact congrArg (fun z => some (Value.int z)) (show (((((nn - nn).toUInt32 >>> ((31 : Int32) &&& 31).toUInt32).toInt32).toInt8.toInt32).toInt8.toInt32) = 0 by rw [own_b2]; exact own_cd0 nn)), N0, rfl⟩
theorem ef_rmCf1 (m : MethodId) (x0 : Nat) (x1 : Int32) : entryFrame m #[(.ref x0), (.int x1)] 2 = mkF m 0 #[.val (.ref x0), .val (.int x1)] [] := by first | (simp [entryFrame, mkF, argsToLocals, Value.category]; done) | rfl
def Q_rmCf1 (Z : State) (ob : Nat) (ko : ClassId) (nn : Int32) (nx : Int32) (ls : List Value) (h0 : Heap) (n0 : Nat) (v : Option Value) (h : Heap) (L : List Loc) : Prop := v = some (.int (1 : Int32)) ∧ Fr n0 L ∧ h = h0
set_option maxRecDepth 65536 in
set_option maxHeartbeats 40000000 in
theorem rmCf1 (l : Launch) (Z : State) (a0 : Array Value) (hw : ∀ d ∈ tables_1, d.before a0 Z = true) (ws : List Jvm.Cond) (ob : Nat) (ko : ClassId) (nn : Int32) (nx : Int32) (ls : List Value) (h0 : Heap) (n0 : Nat) (Z0 : n0 ≤ h0.size) (P1 : Arv Z h0 ob ko .byte nx ls (.int (0 : Int32))) (OLD : Old Z n0 h0) (h1 : 0 < nn.toInt) (h2 : nn.toInt ≤ 1000) (he : nx.toInt = 2 * nn.toInt) :
    MetFree l (⟨"java/lang/StringUTF16", "coderFromArrayLen", "([BI)B"⟩ : MethodName) (head1 (Jvm.Cond.code (⟨"java/lang/StringUTF16", "coderFromArrayLen", "([BI)B"⟩ : MethodName) jdk_52_method_15_code 2 (some .byte) :: ws) ({ frames := 0, cells := 0, slots := 0, locals := 0 } : Room)) (fun a U => a = #[(.ref ob), (.int nn)] ∧ Z.Warmed39 U.vm ∧ U.heap = h0) (fun _ _ _ _ _ => True) (fun _ U o U' => ∃ v L, o = .returned v ∧ Q_rmCf1 Z ob ko nn nx ls h0 n0 v U'.heap L ∧ FrameEnd U o U' L ({ frames := 0, cells := 0, slots := 0, locals := 0 } : Room).cells ({ frames := 0, cells := 0, slots := 0, locals := 0 } : Room).slots) := by
  refine MetFree.of_bodySF (plainFor_of_name pn_java_lang_StringUTF16) hisR ?_
  intro p e s m args below meth c s₁ Bd hml0 hP hK
  obtain ⟨rfl, hZ, hh⟩ := hP
  have hx := Bd.exec
  have hby := Bd.bytes
  have hml : c.maxLocals = 2 := hml0
  have hown : s.vm.findClass "java/lang/StringUTF16" = some m.cls := findClass_of_methodNamed Bd.named
  have hnm := (name_of_methodNamed Bd.named Bd.method).1
  have X0 : Stand p l e ({ frames := 0, cells := 0, slots := 0, locals := 0 } : Room) s m #[(.ref ob), (.int nn)] below meth c s₁ [] 0 0 := Stand.of_body Bd
  have e0 : s₁.heap = h0 := by rw [← hh, Bd.state]; rfl
  have N0 := Fr.nil n0
  have pre0 : ∀ t, Steps p.tables e below (s₁.setTop (mkF m 0 #[.val (.ref ob), .val (.int nn)] [])) t → Steps p.tables e below (s₁.setTop (entryFrame m #[(.ref ob), (.int nn)] 2)) t := fun t k => castTop (ef_rmCf1 m ob nn) k
  have oz := OLD.1
  have lt_ob : ob < h0.size := P1.lt
  refine own_go (B := s₁.setTop (mkF m 0 #[.val (.ref ob), .val (.int nn)] [])) pre0 ?_
  show ∃ t o, Steps p.tables e below (s₁.setTop (mkF m 0 #[.val (.ref ob), .val (.int nn)] [])) t ∧ _
  refine own_go (fun _ => XS.iloadN X0.here hx rfl (hb hby d6_0) rfl) ?_
  refine own_go (fun _ => XS.aloadN X0.here hx rfl (hb hby d6_1) rfl rfl) ?_
  obtain ⟨cl2, Ar2, q2, S2, N2, H2, G2⟩ := id P1
  have ln2 : cl2.slots.size.toInt32 = nx := len_of S2 N2
  have al2 := X0.arraylength hx (by rw [e0]; exact Ar2.1) (State.isArrayOf_alike hZ.alike Ar2.2.1) (g := (mkF m 2 #[.val (.ref ob), .val (.int nn)] [(.ref ob), (.int nn)])) rfl rfl (hb hby d6_2)
  rw [ln2] at al2
  refine own_go al2 ?_
  refine own_go (fun _ => XS.isub X0.here hx rfl (hb hby d6_3) rfl) ?_
  refine own_go (fun _ => XS.bipush X0.here hx rfl (hb hby d6_4)) ?_
  refine own_go (fun _ => XS.iushr X0.here hx rfl (hb hby d6_6) rfl) ?_
  refine own_go (fun _ => XS.i2b X0.here hx rfl (hb hby d6_7) rfl) ?_
  show ∃ t o, Steps p.tables e below (s₁.setTop (mkF m 8 #[.val (.ref ob), .val (.int nn)] [(.int ((((nn - nx).toUInt32 >>> ((31 : Int32) &&& 31).toUInt32).toInt32).toInt8.toInt32))])) t ∧ _
  obtain ⟨fs, hr, hrun, hended, hW, hsame⟩ := X0.leave (v := some (.int (nar .byte ((((nn - nx).toUInt32 >>> ((31 : Int32) &&& 31).toUInt32).toInt32).toInt8.toInt32)))) (fun h => by rw [Bd.returns] at h; cases h)
  refine ⟨_, _, ?_, hrun, hended, _, _, rfl, ?_, ⟨_, rfl⟩, hW, hsame.mono (by decide) (by decide)⟩
  · exact retN X0 hx (t := .byte) Bd.returns (by simp) (hb hby d6_8) hr
  · show Q_rmCf1 Z _ _ _ _ _ h0 n0 _ s₁.heap _
    rw [e0]
    exact ⟨(congrArg (fun z => some (Value.int z)) (show (((((nn - nx).toUInt32 >>> ((31 : Int32) &&& 31).toUInt32).toInt32).toInt8.toInt32).toInt8.toInt32) = 1 by rw [own_b2]; exact own_cd1 h1 h2 he)), N0, rfl⟩
theorem ef_rmS4G (m : MethodId) (x0 : Nat) (x1 : Nat) (x2 : Int32) (x3 : Int32) : entryFrame m #[(.ref x0), (.ref x1), (.int x2), (.int x3), .null] 6 = mkF m 0 #[.val (.ref x0), .val (.ref x1), .val (.int x2), .val (.int x3), .val .null, .unset] [] := by first | (simp [entryFrame, mkF, argsToLocals, Value.category]; done) | rfl
theorem d2_0 : decode jdk_42_method_149_code 0 = .ok (.aload_n 0, 1) := by decide +kernel
theorem d2_1 : decode jdk_42_method_149_code 1 = .ok (.invokespecial 1, 3) := by decide +kernel
theorem d2_4 : decode jdk_42_method_149_code 4 = .ok (.iload_n 3, 1) := by decide +kernel
theorem d2_5 : decode jdk_42_method_149_code 5 = .ok (.ifCond .ne 22, 3) := by decide +kernel
theorem d2_27 : decode jdk_42_method_149_code 27 = .ok (.getstatic 38, 3) := by decide +kernel
theorem d2_30 : decode jdk_42_method_149_code 30 = .ok (.ifCond .eq 28, 3) := by decide +kernel
theorem d2_33 : decode jdk_42_method_149_code 33 = .ok (.aload_n 1, 1) := by decide +kernel
theorem d2_34 : decode jdk_42_method_149_code 34 = .ok (.iload_n 2, 1) := by decide +kernel
theorem d2_35 : decode jdk_42_method_149_code 35 = .ok (.iload_n 3, 1) := by decide +kernel
theorem d2_36 : decode jdk_42_method_149_code 36 = .ok (.invokestatic 177, 3) := by decide +kernel
theorem d2_39 : decode jdk_42_method_149_code 39 = .ok (.astore 5, 2) := by decide +kernel
theorem d2_41 : decode jdk_42_method_149_code 41 = .ok (.aload_n 0, 1) := by decide +kernel
theorem d2_42 : decode jdk_42_method_149_code 42 = .ok (.aload 5, 2) := by decide +kernel
theorem d2_44 : decode jdk_42_method_149_code 44 = .ok (.iload_n 3, 1) := by decide +kernel
theorem d2_45 : decode jdk_42_method_149_code 45 = .ok (.invokestatic 47, 3) := by decide +kernel
theorem pd__28_5bBI_29B : parseMethodDescriptor "([BI)B" = some ⟨[(.array .byte), .int], some .byte⟩ := by decide +kernel
theorem d2_48 : decode jdk_42_method_149_code 48 = .ok (.putfield 15, 3) := by decide +kernel
theorem d2_51 : decode jdk_42_method_149_code 51 = .ok (.aload_n 0, 1) := by decide +kernel
theorem d2_52 : decode jdk_42_method_149_code 52 = .ok (.aload 5, 2) := by decide +kernel
theorem d2_54 : decode jdk_42_method_149_code 54 = .ok (.putfield 9, 3) := by decide +kernel
theorem d2_57 : decode jdk_42_method_149_code 57 = .ok (.return_, 1) := by decide +kernel
def Q_rmS4G (Z : State) (a1 : Nat) (ca : Nat) (kc : ClassId) (nn : Int32) (cs : List Int32) (zc : Int32) (h0 : Heap) (n0 : Nat) (v : Option Value) (h : Heap) (L : List Loc) : Prop := ∃ (tb : Nat), ∃ (kb : ClassId), ∃ (nx : Int32), ∃ (ls : List Value), ∃ (cd : Int32), v = none ∧ Fr n0 L ∧ Keep h0 h [a1] ∧ Exa Z h a1 "java/lang/String" ∧ Fld Z h a1 "java/lang/String" "value" "[B" (.ref tb) ∧ Fld Z h a1 "java/lang/String" "coder" "B" (.int cd) ∧ Arv Z h tb kb .byte nx ls (.int (0 : Int32)) ∧ ((own_lat cs ∧ cd = (0 : Int32) ∧ ls = own_lb cs ∧ nx = nn) ∨ (¬ own_lat cs ∧ cd = (1 : Int32) ∧ ls = own_u8 cs ∧ nx.toInt = 2 * nn.toInt)) ∧ (h0.size ≤ tb)
set_option maxRecDepth 65536 in
set_option maxHeartbeats 40000000 in
theorem rmS4G (l : Launch) (Z : State) (a0 : Array Value) (hw : ∀ d ∈ tables_1, d.before a0 Z = true) (ws : List Jvm.Cond) (a1 : Nat) (ca : Nat) (kc : ClassId) (nn : Int32) (cs : List Int32) (zc : Int32) (h0 : Heap) (n0 : Nat) (Z0 : n0 ≤ h0.size) (P1 : Exa Z h0 a1 "java/lang/String") (P2 : Fld Z h0 a1 "java/lang/String" "value" "[B" .null) (P3 : Fld Z h0 a1 "java/lang/String" "coder" "B" (.int (0 : Int32))) (P4 : Arv Z h0 ca kc .char nn (own_cv cs) (.int (0 : Int32))) (OLD : Old Z n0 h0) (P5 : Sta Z Z.heap "java/lang/String" "COMPACT_STRINGS" "Z" (.int zc)) (P6 : Sta Z Z.heap "java/lang/StringUTF16" "$assertionsDisabled" "Z" (.int (1 : Int32))) (P7 : Sta Z Z.heap "java/lang/StringUTF16" "HI_BYTE_SHIFT" "I" (.int (0 : Int32))) (P8 : Sta Z Z.heap "java/lang/StringUTF16" "LO_BYTE_SHIFT" "I" (.int (8 : Int32))) (hzc : ¬ (zc = (0 : Int32))) (fc : own_fit (own_cv cs) nn) (h34 : cs.length ≤ 34) (h16 : ∀ x ∈ cs, own_c16 x) (hn0 : 0 < nn.toInt) (ga : n0 ≤ a1) (hca : ca ≠ a1) :
    MetFree l (⟨"java/lang/String", "<init>", "([CIILjava/lang/Void;)V"⟩ : MethodName) (head1 (Jvm.Cond.code (⟨"java/lang/String", "<init>", "([CIILjava/lang/Void;)V"⟩ : MethodName) jdk_42_method_149_code 6 none :: ws) ({ frames := 4, cells := 2, slots := 102, locals := 57 } : Room)) (fun a U => a = #[(.ref a1), (.ref ca), (.int (0 : Int32)), (.int nn), .null] ∧ Z.Warmed39 U.vm ∧ U.heap = h0) (fun _ _ _ _ _ => True) (fun _ U o U' => ∃ v L, o = .returned v ∧ Q_rmS4G Z a1 ca kc nn cs zc h0 n0 v U'.heap L ∧ FrameEnd U o U' L ({ frames := 4, cells := 2, slots := 102, locals := 57 } : Room).cells ({ frames := 4, cells := 2, slots := 102, locals := 57 } : Room).slots) := by
  refine MetFree.of_bodySF (plainFor_of_name pn_java_lang_String) hisR ?_
  intro p e s m args below meth c s₁ Bd hml0 hP hK
  obtain ⟨rfl, hZ, hh⟩ := hP
  have hx := Bd.exec
  have hby := Bd.bytes
  have hml : c.maxLocals = 6 := hml0
  have hown : s.vm.findClass "java/lang/String" = some m.cls := findClass_of_methodNamed Bd.named
  have hnm := (name_of_methodNamed Bd.named Bd.method).1
  have X0 : Stand p l e ({ frames := 4, cells := 2, slots := 102, locals := 57 } : Room) s m #[(.ref a1), (.ref ca), (.int (0 : Int32)), (.int nn), .null] below meth c s₁ [] 0 0 := Stand.of_body Bd
  have e0 : s₁.heap = h0 := by rw [← hh, Bd.state]; rfl
  have N0 := Fr.nil n0
  have pre0 : ∀ t, Steps p.tables e below (s₁.setTop (mkF m 0 #[.val (.ref a1), .val (.ref ca), .val (.int (0 : Int32)), .val (.int nn), .val .null, .unset] [])) t → Steps p.tables e below (s₁.setTop (entryFrame m #[(.ref a1), (.ref ca), (.int (0 : Int32)), (.int nn), .null] 6)) t := fun t k => castTop (ef_rmS4G m a1 ca (0 : Int32) nn) k
  have w_1 := hw _ (List.mem_of_getElem? (i := 1) rfl)
  have w_17 := hw _ (List.mem_of_getElem? (i := 17) rfl)
  have w_18 := hw _ (List.mem_of_getElem? (i := 18) rfl)
  have w_23 := hw _ (List.mem_of_getElem? (i := 23) rfl)
  have w_24 := hw _ (List.mem_of_getElem? (i := 24) rfl)
  have w_25 := hw _ (List.mem_of_getElem? (i := 25) rfl)
  have w_26 := hw _ (List.mem_of_getElem? (i := 26) rfl)
  have w_27 := hw _ (List.mem_of_getElem? (i := 27) rfl)
  have w_28 := hw _ (List.mem_of_getElem? (i := 28) rfl)
  have w_29 := hw _ (List.mem_of_getElem? (i := 29) rfl)
  have oz := OLD.1
  have lt_a1 : a1 < h0.size := P1.lt
  have lt_ca : ca < h0.size := P4.lt
  refine own_go (B := s₁.setTop (mkF m 0 #[.val (.ref a1), .val (.ref ca), .val (.int (0 : Int32)), .val (.int nn), .val .null, .unset] [])) pre0 ?_
  show ∃ t o, Steps p.tables e below (s₁.setTop (mkF m 0 #[.val (.ref a1), .val (.ref ca), .val (.int (0 : Int32)), .val (.int nn), .val .null, .unset] [])) t ∧ _
  refine own_go (fun _ => XS.aloadN X0.here hx rfl (hb hby d2_0) rfl rfl) ?_
  show ∃ t o, Steps p.tables e below (s₁.setTop (mkF m 1 #[.val (.ref a1), .val (.ref ca), .val (.int (0 : Int32)), .val (.int nn), .val .null, .unset] [(.ref a1)])) t ∧ _
  obtain ⟨T9, X9, e9, st9⟩ := initO X0 hx hZ hown (hw _ (List.mem_of_getElem? (i := 11) rfl)) (hw _ (List.mem_of_getElem? (i := 12) rfl)) (hw _ (List.mem_of_getElem? (i := 13) rfl)) e0 (g := (mkF m 1 #[.val (.ref a1), .val (.ref ca), .val (.int (0 : Int32)), .val (.int nn), .val .null, .unset] [(.ref a1)])) rfl (by rw [hml]; rfl) rfl (hb hby d2_1) (by decide) (W := 0) (by show 2 * 0 + _ ≤ _; exact Nat.le_of_eq rfl) (by decide)
  refine own_go st9 ?_
  refine own_go (fun _ => XS.iloadN X9.here hx rfl (hb hby d2_4) rfl) ?_
  show ∃ t o, Steps p.tables e below (T9.setTop (mkF m 5 #[.val (.ref a1), .val (.ref ca), .val (.int (0 : Int32)), .val (.int nn), .val .null, .unset] [(.int nn)])) t ∧ _
  have hd10 : ¬ (nn = (0 : Int32)) := (fun q => by rw [q] at hn0; exact absurd hn0 (by decide))
  refine own_go (fun _ => XS.ifYes X9.here hx rfl (pc0 := 5) (pc' := 27) rfl (hb hby d2_5) rfl ((if0 _ _).trans (feq hd10).2) (by decide) (by decide)) ?_
  obtain ⟨T11, X11, e11, st11⟩ := getS2 X9 hx hZ hown (host := "") (Or.inl (hw _ (List.mem_of_getElem? (i := 14) rfl))) Via.refl e9 (Sta.ext OLD.2 P5) (g := (mkF m 27 #[.val (.ref a1), .val (.ref ca), .val (.int (0 : Int32)), .val (.int nn), .val .null, .unset] [])) rfl (hb hby d2_27)
  refine own_go st11 ?_
  show ∃ t o, Steps p.tables e below (T11.setTop (mkF m 30 #[.val (.ref a1), .val (.ref ca), .val (.int (0 : Int32)), .val (.int nn), .val .null, .unset] [(.int zc)])) t ∧ _
  refine own_go (fun _ => XS.ifNo X11.here hx rfl (hb hby d2_30) rfl ((if0 _ _).trans (feq hzc).1)) ?_
  refine own_go (fun _ => XS.aloadN X11.here hx rfl (hb hby d2_33) rfl rfl) ?_
  refine own_go (fun _ => XS.iloadN X11.here hx rfl (hb hby d2_34) rfl) ?_
  refine own_go (fun _ => XS.iloadN X11.here hx rfl (hb hby d2_35) rfl) ?_
  show ∃ t o, Steps p.tables e below (T11.setTop (mkF m 36 #[.val (.ref a1), .val (.ref ca), .val (.int (0 : Int32)), .val (.int nn), .val .null, .unset] [(.int nn), (.int (0 : Int32)), (.ref ca)])) t ∧ _
  obtain ⟨_, _, ⟨T12, L12, k12, n12⟩, -, X12, ⟨Lc12, hQ12, l12, y12, z12⟩, st12⟩ := Jvm.LawKit.callS X11 hx (y := (⟨"java/lang/StringUTF16", "compress", "([CII)[B"⟩ : MethodName)) hown (mvT hZ (hw _ (List.mem_of_getElem? (i := 15) rfl))) (mvT hZ (hw _ (List.mem_of_getElem? (i := 16) rfl))) (mvT hZ w_17) (mvT hZ w_18) (by decide) (backOf (W := 0) (rmCb l Z a0 hw [] ca kc nn cs h0 n0 Z0 P4 OLD P6 P7 P8 fc h34 h16) hZ w_18 w_17 (by decide) (by decide)) (g := (mkF m 36 #[.val (.ref a1), .val (.ref ca), .val (.int (0 : Int32)), .val (.int nn), .val .null, .unset] [(.int nn), (.int (0 : Int32)), (.ref ca)])) rfl (by rw [hml]; rfl) (argsL := [(.ref ca), (.int (0 : Int32)), (.int nn)]) (rest := []) (lenOf pd__28_5bCII_29_5bB rfl) rfl (by show 2 * 0 + _ ≤ _; exact Nat.le_of_eq rfl) (hb hby d2_36) (fun _ _ => ⟨rfl, e11, (by decide : 0 + 2 ≤ _), (by decide : 0 + 102 ≤ _)⟩)
  dsimp only [Pt.U, Pt.locs, Pt.cells, Pt.slots] at X12 l12 y12 z12 st12 hQ12
  rw [l12, y12, z12] at X12
  obtain ⟨ob_12, ko_12, nx_12, ls_12, rfl, Nq12, Kp12, G12_0, H12_0, H12_1⟩ := hQ12
  have N12 := Fr.app N0 Nq12
  refine own_go st12 ?_
  have le_12 : h0.size ≤ T12.heap.size := Kp12.1
  have K12 : Keep h0 T12.heap [a1] := Keep.trans (Keep.refl h0 [a1]) Kp12 all0
  have lt_ob_12 : ob_12 < T12.heap.size := (G12_0).lt
  refine own_go (fun _ => XS.astore X12.here hx rfl (hb hby d2_39) rfl rfl (l' := #[.val (.ref a1), .val (.ref ca), .val (.int (0 : Int32)), .val (.int nn), .val .null, .val (.ref ob_12)]) rfl) ?_
  refine own_go (fun _ => XS.aloadN X12.here hx rfl (hb hby d2_41) rfl rfl) ?_
  refine own_go (fun _ => XS.aload X12.here hx rfl (hb hby d2_42) rfl rfl) ?_
  show ∃ t o, Steps p.tables e below (T12.setTop (mkF m 44 #[.val (.ref a1), .val (.ref ca), .val (.int (0 : Int32)), .val (.int nn), .val .null, .val (.ref ob_12)] [(.ref ob_12), (.ref a1)])) t ∧ _
  rcases H12_0 with ⟨hla, hls, hnx⟩ | ⟨hla, hls, hnx⟩
  · show ∃ t o, Steps p.tables e below (T12.setTop (mkF m 44 #[.val (.ref a1), .val (.ref ca), .val (.int (0 : Int32)), .val (.int nn), .val .null, .val (.ref ob_12)] [(.ref ob_12), (.ref a1)])) t ∧ _
    refine own_go (fun _ => XS.iloadN X12.here hx rfl (hb hby d2_44) rfl) ?_
    show ∃ t o, Steps p.tables e below (T12.setTop (mkF m 45 #[.val (.ref a1), .val (.ref ca), .val (.int (0 : Int32)), .val (.int nn), .val .null, .val (.ref ob_12)] [(.int nn), (.ref ob_12), (.ref a1)])) t ∧ _
    have F13 := (Old.keep OLD Kp12 all0)
    have zl14 : n0 ≤ T12.heap.size := by omega
    obtain ⟨_, _, ⟨T15, L15, k15, n15⟩, -, X15, ⟨Lc15, hQ15, l15, y15, z15⟩, st15⟩ := Jvm.LawKit.callS X12 hx (y := (⟨"java/lang/StringUTF16", "coderFromArrayLen", "([BI)B"⟩ : MethodName)) hown (mvT hZ w_23) (mvT hZ w_24) (mvT hZ w_17) (mvT hZ w_25) (by decide) (backOf (W := 1) (rmCf0 l Z a0 hw [] ob_12 ko_12 nn nx_12 ls_12 T12.heap n0 zl14 G12_0 F13 (hnx : nx_12 = nn)) hZ w_25 w_17 (by decide) (by decide)) (g := (mkF m 45 #[.val (.ref a1), .val (.ref ca), .val (.int (0 : Int32)), .val (.int nn), .val .null, .val (.ref ob_12)] [(.int nn), (.ref ob_12), (.ref a1)])) rfl (by rw [hml]; rfl) (argsL := [(.ref ob_12), (.int nn)]) (rest := [(.ref a1)]) (lenOf pd__28_5bBI_29B rfl) rfl (by show 2 * 0 + _ ≤ _; exact Nat.le_of_eq rfl) (hb hby d2_45) (fun _ _ => ⟨rfl, rfl, (by decide : 2 + 0 ≤ _), (by decide : 102 + 0 ≤ _)⟩)
    dsimp only [Pt.U, Pt.locs, Pt.cells, Pt.slots] at X15 l15 y15 z15 st15 hQ15
    rw [l15, y15, z15] at X15
    obtain ⟨rfl, Nq15, e15⟩ := hQ15
    have N15 := Fr.app N12 Nq15
    refine own_go st15 ?_
    have F16 := (Exa.keep P1 Kp12)
    have F17 := (Fld.keep P3 Kp12 nin0)
    obtain ⟨T18, h18, X18, e18, W18, st18⟩ := putFN X15 hx hZ hown w_26 Via.refl e15 F17 F16 (Or.inr ⟨w_27, rfl, hnm⟩) w_1 (ty := .byte) (v' := (.int (0 : Int32).toInt8.toInt32)) (by decide) rfl (fits_nar_byte _) (g := (mkF m 48 #[.val (.ref a1), .val (.ref ca), .val (.int (0 : Int32)), .val (.int nn), .val .null, .val (.ref ob_12)] [(.int (0 : Int32)), (.ref a1)])) rfl rfl (hb hby d2_48)
    refine own_go st18 ?_
    have le_18 : T12.heap.size ≤ h18.size := Nat.le_of_eq W18.size.symm
    have K18 : Keep h0 h18 [a1] := Keep.wr K12 W18 (Or.inl (List.mem_of_getElem? (i := 0) rfl))
    have N18 := Fr.snoc X18 N15 ga
    have Fw18 := Fld.same W18 F17
    have Fcz : Fld Z h18 a1 "java/lang/String" "coder" "B" (.int (0 : Int32)) := Fw18
    refine own_go (fun _ => XS.aloadN X18.here hx rfl (hb hby d2_51) rfl rfl) ?_
    refine own_go (fun _ => XS.aload X18.here hx rfl (hb hby d2_52) rfl rfl) ?_
    have F19 := (Exa.wr W18 F16)
    have F20 := (Fld.other W18 (Fld.keep P2 Kp12 nin0) (Or.inr (slot_ne (a0 := a0) (Or.inr w_29) (Or.inr w_27) (by decide) (t := (.array .byte)) (t' := .byte) (by decide) (by decide))))
    obtain ⟨T21, h21, X21, e21, W21, st21⟩ := putF X18 hx hZ hown (host := "") (Or.inl w_28) Via.refl e18 F20 F19 (Or.inr ⟨w_29, rfl, hnm⟩) w_1 (ty := (.array .byte)) (by decide) rfl rfl (g := (mkF m 54 #[.val (.ref a1), .val (.ref ca), .val (.int (0 : Int32)), .val (.int nn), .val .null, .val (.ref ob_12)] [(.ref ob_12), (.ref a1)])) rfl rfl (hb hby d2_54)
    refine own_go st21 ?_
    have le_21 : h18.size ≤ h21.size := Nat.le_of_eq W21.size.symm
    have K21 : Keep h0 h21 [a1] := Keep.wr K18 W21 (Or.inl (List.mem_of_getElem? (i := 0) rfl))
    have N21 := Fr.snoc X21 N18 ga
    have Fw21 := Fld.same W21 F20
    show ∃ t o, Steps p.tables e below (T21.setTop (mkF m 57 #[.val (.ref a1), .val (.ref ca), .val (.int (0 : Int32)), .val (.int nn), .val .null, .val (.ref ob_12)] [])) t ∧ _
    have F22 := (Exa.wr W21 F19)
    have F23 := (Fld.other W21 Fcz (Or.inr (slot_ne (a0 := a0) (Or.inr w_27) (Or.inr w_29) (by decide) (t := .byte) (t' := (.array .byte)) (by decide) (by decide))))
    have ne24 : ob_12 ≠ a1 := own_ne (by omega)
    have F25 := (Arv.other (Arv.other G12_0 W18 ne24) W21 ne24)
    obtain ⟨fs, hr, hrun, hended, hW, hsame⟩ := X21.leave (v := none) (fun _ => rfl)
    refine ⟨_, _, ?_, hrun, hended, _, _, rfl, ?_, ⟨_, rfl⟩, hW, hsame.mono (by decide) (by decide)⟩
    · exact X21.returnOut hx Bd.returns (hb hby d2_57) hr
    · show Q_rmS4G Z _ _ _ _ _ _ h0 n0 _ T21.heap _
      rw [e21]
      exact ⟨ob_12, ko_12, nx_12, ls_12, (0 : Int32), rfl, N21, K21, F22, Fw21, F23, F25, (Or.inl ⟨hla, rfl, hls, hnx⟩), H12_1⟩
  · show ∃ t o, Steps p.tables e below (T12.setTop (mkF m 44 #[.val (.ref a1), .val (.ref ca), .val (.int (0 : Int32)), .val (.int nn), .val .null, .val (.ref ob_12)] [(.ref ob_12), (.ref a1)])) t ∧ _
    refine own_go (fun _ => XS.iloadN X12.here hx rfl (hb hby d2_44) rfl) ?_
    show ∃ t o, Steps p.tables e below (T12.setTop (mkF m 45 #[.val (.ref a1), .val (.ref ca), .val (.int (0 : Int32)), .val (.int nn), .val .null, .val (.ref ob_12)] [(.int nn), (.ref ob_12), (.ref a1)])) t ∧ _
    have F26 := (Old.keep OLD Kp12 all0)
    have zl27 : n0 ≤ T12.heap.size := by omega
    obtain ⟨_, _, ⟨T28, L28, k28, n28⟩, -, X28, ⟨Lc28, hQ28, l28, y28, z28⟩, st28⟩ := Jvm.LawKit.callS X12 hx (y := (⟨"java/lang/StringUTF16", "coderFromArrayLen", "([BI)B"⟩ : MethodName)) hown (mvT hZ w_23) (mvT hZ w_24) (mvT hZ w_17) (mvT hZ w_25) (by decide) (backOf (W := 1) (rmCf1 l Z a0 hw [] ob_12 ko_12 nn nx_12 ls_12 T12.heap n0 zl27 G12_0 F26 (hn0 : 0 < nn.toInt) ((by have q := own_n34 fc h34; omega) : nn.toInt ≤ 1000) (hnx : nx_12.toInt = 2 * nn.toInt)) hZ w_25 w_17 (by decide) (by decide)) (g := (mkF m 45 #[.val (.ref a1), .val (.ref ca), .val (.int (0 : Int32)), .val (.int nn), .val .null, .val (.ref ob_12)] [(.int nn), (.ref ob_12), (.ref a1)])) rfl (by rw [hml]; rfl) (argsL := [(.ref ob_12), (.int nn)]) (rest := [(.ref a1)]) (lenOf pd__28_5bBI_29B rfl) rfl (by show 2 * 0 + _ ≤ _; exact Nat.le_of_eq rfl) (hb hby d2_45) (fun _ _ => ⟨rfl, rfl, (by decide : 2 + 0 ≤ _), (by decide : 102 + 0 ≤ _)⟩)
    dsimp only [Pt.U, Pt.locs, Pt.cells, Pt.slots] at X28 l28 y28 z28 st28 hQ28
    rw [l28, y28, z28] at X28
    obtain ⟨rfl, Nq28, e28⟩ := hQ28
    have N28 := Fr.app N12 Nq28
    refine own_go st28 ?_
    have F29 := (Exa.keep P1 Kp12)
    have F30 := (Fld.keep P3 Kp12 nin0)
    obtain ⟨T31, h31, X31, e31, W31, st31⟩ := putFN X28 hx hZ hown w_26 Via.refl e28 F30 F29 (Or.inr ⟨w_27, rfl, hnm⟩) w_1 (ty := .byte) (v' := (.int (1 : Int32).toInt8.toInt32)) (by decide) rfl (fits_nar_byte _) (g := (mkF m 48 #[.val (.ref a1), .val (.ref ca), .val (.int (0 : Int32)), .val (.int nn), .val .null, .val (.ref ob_12)] [(.int (1 : Int32)), (.ref a1)])) rfl rfl (hb hby d2_48)
    refine own_go st31 ?_
    have le_31 : T12.heap.size ≤ h31.size := Nat.le_of_eq W31.size.symm
    have K31 : Keep h0 h31 [a1] := Keep.wr K12 W31 (Or.inl (List.mem_of_getElem? (i := 0) rfl))
    have N31 := Fr.snoc X31 N28 ga
    have Fw31 := Fld.same W31 F30
    have Fcz : Fld Z h31 a1 "java/lang/String" "coder" "B" (.int (1 : Int32)) := Fw31
    refine own_go (fun _ => XS.aloadN X31.here hx rfl (hb hby d2_51) rfl rfl) ?_
    refine own_go (fun _ => XS.aload X31.here hx rfl (hb hby d2_52) rfl rfl) ?_
    have F32 := (Exa.wr W31 F29)
    have F33 := (Fld.other W31 (Fld.keep P2 Kp12 nin0) (Or.inr (slot_ne (a0 := a0) (Or.inr w_29) (Or.inr w_27) (by decide) (t := (.array .byte)) (t' := .byte) (by decide) (by decide))))
    obtain ⟨T34, h34, X34, e34, W34, st34⟩ := putF X31 hx hZ hown (host := "") (Or.inl w_28) Via.refl e31 F33 F32 (Or.inr ⟨w_29, rfl, hnm⟩) w_1 (ty := (.array .byte)) (by decide) rfl rfl (g := (mkF m 54 #[.val (.ref a1), .val (.ref ca), .val (.int (0 : Int32)), .val (.int nn), .val .null, .val (.ref ob_12)] [(.ref ob_12), (.ref a1)])) rfl rfl (hb hby d2_54)
    refine own_go st34 ?_
    have le_34 : h31.size ≤ h34.size := Nat.le_of_eq W34.size.symm
    have K34 : Keep h0 h34 [a1] := Keep.wr K31 W34 (Or.inl (List.mem_of_getElem? (i := 0) rfl))
    have N34 := Fr.snoc X34 N31 ga
    have Fw34 := Fld.same W34 F33
    show ∃ t o, Steps p.tables e below (T34.setTop (mkF m 57 #[.val (.ref a1), .val (.ref ca), .val (.int (0 : Int32)), .val (.int nn), .val .null, .val (.ref ob_12)] [])) t ∧ _
    have F35 := (Exa.wr W34 F32)
    have F36 := (Fld.other W34 Fcz (Or.inr (slot_ne (a0 := a0) (Or.inr w_27) (Or.inr w_29) (by decide) (t := .byte) (t' := (.array .byte)) (by decide) (by decide))))
    have ne37 : ob_12 ≠ a1 := own_ne (by omega)
    have F38 := (Arv.other (Arv.other G12_0 W31 ne37) W34 ne37)
    obtain ⟨fs, hr, hrun, hended, hW, hsame⟩ := X34.leave (v := none) (fun _ => rfl)
    refine ⟨_, _, ?_, hrun, hended, _, _, rfl, ?_, ⟨_, rfl⟩, hW, hsame.mono (by decide) (by decide)⟩
    · exact X34.returnOut hx Bd.returns (hb hby d2_57) hr
    · show Q_rmS4G Z _ _ _ _ _ _ h0 n0 _ T34.heap _
      rw [e34]
      exact ⟨ob_12, ko_12, nx_12, ls_12, (1 : Int32), rfl, N34, K34, F35, Fw34, F36, F38, (Or.inr ⟨hla, rfl, hls, hnx⟩), H12_1⟩
theorem ef_rmS1G (m : MethodId) (x0 : Nat) (x1 : Nat) : entryFrame m #[(.ref x0), (.ref x1)] 2 = mkF m 0 #[.val (.ref x0), .val (.ref x1)] [] := by first | (simp [entryFrame, mkF, argsToLocals, Value.category]; done) | rfl
theorem d1_0 : decode jdk_42_method_3_code 0 = .ok (.aload_n 0, 1) := by decide +kernel
theorem d1_1 : decode jdk_42_method_3_code 1 = .ok (.aload_n 1, 1) := by decide +kernel
theorem d1_2 : decode jdk_42_method_3_code 2 = .ok (.iconst 0, 1) := by decide +kernel
theorem d1_3 : decode jdk_42_method_3_code 3 = .ok (.aload_n 1, 1) := by decide +kernel
theorem d1_4 : decode jdk_42_method_3_code 4 = .ok (.arraylength, 1) := by decide +kernel
theorem d1_5 : decode jdk_42_method_3_code 5 = .ok (.aconst_null, 1) := by decide +kernel
theorem d1_6 : decode jdk_42_method_3_code 6 = .ok (.invokespecial 27, 3) := by decide +kernel
theorem pd__28_5bCIILjava_2flang_2fVoid_3b_29V : parseMethodDescriptor "([CIILjava/lang/Void;)V" = some ⟨[(.array .char), .int, .int, (.object "java/lang/Void")], none⟩ := by decide +kernel
theorem d1_9 : decode jdk_42_method_3_code 9 = .ok (.return_, 1) := by decide +kernel
def Q_rmS1G (Z : State) (a1 : Nat) (ca : Nat) (kc : ClassId) (nn : Int32) (cs : List Int32) (zc : Int32) (h0 : Heap) (n0 : Nat) (v : Option Value) (h : Heap) (L : List Loc) : Prop := ∃ (tb : Nat), ∃ (kb : ClassId), ∃ (nx : Int32), ∃ (ls : List Value), ∃ (cd : Int32), v = none ∧ Fr n0 L ∧ Keep h0 h [a1] ∧ Exa Z h a1 "java/lang/String" ∧ Fld Z h a1 "java/lang/String" "value" "[B" (.ref tb) ∧ Fld Z h a1 "java/lang/String" "coder" "B" (.int cd) ∧ Arv Z h tb kb .byte nx ls (.int (0 : Int32)) ∧ ((own_lat cs ∧ cd = (0 : Int32) ∧ ls = own_lb cs ∧ nx = nn) ∨ (¬ own_lat cs ∧ cd = (1 : Int32) ∧ ls = own_u8 cs ∧ nx.toInt = 2 * nn.toInt)) ∧ (h0.size ≤ tb)
set_option maxRecDepth 65536 in
set_option maxHeartbeats 40000000 in
theorem rmS1G (l : Launch) (Z : State) (a0 : Array Value) (hw : ∀ d ∈ tables_1, d.before a0 Z = true) (ws : List Jvm.Cond) (a1 : Nat) (ca : Nat) (kc : ClassId) (nn : Int32) (cs : List Int32) (zc : Int32) (h0 : Heap) (n0 : Nat) (Z0 : n0 ≤ h0.size) (P1 : Exa Z h0 a1 "java/lang/String") (P2 : Fld Z h0 a1 "java/lang/String" "value" "[B" .null) (P3 : Fld Z h0 a1 "java/lang/String" "coder" "B" (.int (0 : Int32))) (P4 : Arv Z h0 ca kc .char nn (own_cv cs) (.int (0 : Int32))) (OLD : Old Z n0 h0) (P5 : Sta Z Z.heap "java/lang/String" "COMPACT_STRINGS" "Z" (.int zc)) (P6 : Sta Z Z.heap "java/lang/StringUTF16" "$assertionsDisabled" "Z" (.int (1 : Int32))) (P7 : Sta Z Z.heap "java/lang/StringUTF16" "HI_BYTE_SHIFT" "I" (.int (0 : Int32))) (P8 : Sta Z Z.heap "java/lang/StringUTF16" "LO_BYTE_SHIFT" "I" (.int (8 : Int32))) (hzc : ¬ (zc = (0 : Int32))) (fc : own_fit (own_cv cs) nn) (h34 : cs.length ≤ 34) (h16 : ∀ x ∈ cs, own_c16 x) (hn0 : 0 < nn.toInt) (ga : n0 ≤ a1) (hca : ca ≠ a1) :
    MetFree l (⟨"java/lang/String", "<init>", "([C)V"⟩ : MethodName) (head1 (Jvm.Cond.code (⟨"java/lang/String", "<init>", "([C)V"⟩ : MethodName) jdk_42_method_3_code 2 none :: ws) ({ frames := 5, cells := 2, slots := 102, locals := 74 } : Room)) (fun a U => a = #[(.ref a1), (.ref ca)] ∧ Z.Warmed39 U.vm ∧ U.heap = h0) (fun _ _ _ _ _ => True) (fun _ U o U' => ∃ v L, o = .returned v ∧ Q_rmS1G Z a1 ca kc nn cs zc h0 n0 v U'.heap L ∧ FrameEnd U o U' L ({ frames := 5, cells := 2, slots := 102, locals := 74 } : Room).cells ({ frames := 5, cells := 2, slots := 102, locals := 74 } : Room).slots) := by
  refine MetFree.of_bodySF (plainFor_of_name pn_java_lang_String) hisR ?_
  intro p e s m args below meth c s₁ Bd hml0 hP hK
  obtain ⟨rfl, hZ, hh⟩ := hP
  have hx := Bd.exec
  have hby := Bd.bytes
  have hml : c.maxLocals = 2 := hml0
  have hown : s.vm.findClass "java/lang/String" = some m.cls := findClass_of_methodNamed Bd.named
  have hnm := (name_of_methodNamed Bd.named Bd.method).1
  have X0 : Stand p l e ({ frames := 5, cells := 2, slots := 102, locals := 74 } : Room) s m #[(.ref a1), (.ref ca)] below meth c s₁ [] 0 0 := Stand.of_body Bd
  have e0 : s₁.heap = h0 := by rw [← hh, Bd.state]; rfl
  have N0 := Fr.nil n0
  have pre0 : ∀ t, Steps p.tables e below (s₁.setTop (mkF m 0 #[.val (.ref a1), .val (.ref ca)] [])) t → Steps p.tables e below (s₁.setTop (entryFrame m #[(.ref a1), (.ref ca)] 2)) t := fun t k => castTop (ef_rmS1G m a1 ca) k
  have w_10 := hw _ (List.mem_of_getElem? (i := 10) rfl)
  have oz := OLD.1
  have lt_a1 : a1 < h0.size := P1.lt
  have lt_ca : ca < h0.size := P4.lt
  refine own_go (B := s₁.setTop (mkF m 0 #[.val (.ref a1), .val (.ref ca)] [])) pre0 ?_
  show ∃ t o, Steps p.tables e below (s₁.setTop (mkF m 0 #[.val (.ref a1), .val (.ref ca)] [])) t ∧ _
  refine own_go (fun _ => XS.aloadN X0.here hx rfl (hb hby d1_0) rfl rfl) ?_
  refine own_go (fun _ => XS.aloadN X0.here hx rfl (hb hby d1_1) rfl rfl) ?_
  refine own_go (fun _ => XS.iconst X0.here hx rfl (hb hby d1_2)) ?_
  refine own_go (fun _ => XS.aloadN X0.here hx rfl (hb hby d1_3) rfl rfl) ?_
  obtain ⟨cl9, Ar9, q9, S9, N9, H9, G9⟩ := id P4
  have ln9 : cl9.slots.size.toInt32 = nn := len_of S9 N9
  have al9 := X0.arraylength hx (by rw [e0]; exact Ar9.1) (State.isArrayOf_alike hZ.alike Ar9.2.1) (g := (mkF m 4 #[.val (.ref a1), .val (.ref ca)] [(.ref ca), (.int (0 : Int32)), (.ref ca), (.ref a1)])) rfl rfl (hb hby d1_4)
  rw [ln9] at al9
  refine own_go al9 ?_
  refine own_go (fun _ => XS.aconstNull X0.here hx rfl (hb hby d1_5)) ?_
  show ∃ t o, Steps p.tables e below (s₁.setTop (mkF m 6 #[.val (.ref a1), .val (.ref ca)] [.null, (.int nn), (.int (0 : Int32)), (.ref ca), (.ref a1)])) t ∧ _
  obtain ⟨_, _, ⟨T10, L10, k10, n10⟩, -, X10, ⟨Lc10, hQ10, l10, y10, z10⟩, st10⟩ := X0.specialBack hx (y := (⟨"java/lang/String", "<init>", "([CIILjava/lang/Void;)V"⟩ : MethodName)) rfl hown (mvT hZ (hw _ (List.mem_of_getElem? (i := 7) rfl))) (mvT hZ (hw _ (List.mem_of_getElem? (i := 8) rfl))) (mvT hZ w_10) (by decide) (backOf (W := 0) (rmS4G l Z a0 hw [] a1 ca kc nn cs zc h0 n0 Z0 P1 P2 P3 P4 OLD P5 P6 P7 P8 hzc fc h34 h16 hn0 ga hca) hZ w_10 (hw _ (List.mem_of_getElem? (i := 2) rfl)) (by decide) (by decide)) (g := (mkF m 6 #[.val (.ref a1), .val (.ref ca)] [.null, (.int nn), (.int (0 : Int32)), (.ref ca), (.ref a1)])) rfl (by rw [hml]; rfl) (Steps.refl _) (a := a1) (argsL := [(.ref ca), (.int (0 : Int32)), (.int nn), .null]) (rest := []) (lenOf pd__28_5bCIILjava_2flang_2fVoid_3b_29V rfl) rfl (by show 2 * 0 + _ ≤ _; exact Nat.le_of_eq rfl) (hb hby d1_6) (fun _ _ => ⟨rfl, e0, (by decide : 0 + 2 ≤ _), (by decide : 0 + 102 ≤ _)⟩)
  dsimp only [Pt.U, Pt.locs, Pt.cells, Pt.slots] at X10 l10 y10 z10 st10 hQ10
  rw [l10, y10, z10] at X10
  obtain ⟨tb_10, kb_10, nx_10, ls_10, cd_10, rfl, Nq10, Kp10, G10_0, G10_1, G10_2, G10_3, H10_0, H10_1⟩ := hQ10
  have N10 := Fr.app N0 Nq10
  refine own_goT st10 ?_
  have le_10 : h0.size ≤ T10.heap.size := Kp10.1
  have K10 : Keep h0 T10.heap [a1] := Keep.trans (Keep.refl h0 [a1]) Kp10 (allS (Or.inl (List.mem_of_getElem? (i := 0) rfl)) all0)
  have lt_tb_10 : tb_10 < T10.heap.size := (G10_3).lt
  show ∃ t o, Steps p.tables e below (T10.setTop (mkF m 9 #[.val (.ref a1), .val (.ref ca)] [])) t ∧ _
  obtain ⟨fs, hr, hrun, hended, hW, hsame⟩ := X10.leave (v := none) (fun _ => rfl)
  refine ⟨_, _, ?_, hrun, hended, _, _, rfl, ?_, ⟨_, rfl⟩, hW, hsame.mono (by decide) (by decide)⟩
  · exact X10.returnOut hx Bd.returns (hb hby d1_9) hr
  · show Q_rmS1G Z _ _ _ _ _ _ h0 n0 _ T10.heap _
    exact ⟨tb_10, kb_10, nx_10, ls_10, cd_10, rfl, N10, K10, G10_0, G10_1, G10_2, G10_3, H10_0, H10_1⟩
theorem ef_rmCod1 (m : MethodId) (x0 : Nat) : entryFrame m #[(.ref x0)] 1 = mkF m 0 #[.val (.ref x0)] [] := by first | (simp [entryFrame, mkF, argsToLocals, Value.category]; done) | rfl
def Q_rmCod1 (Z : State) (so : Nat) (zc : Int32) (h0 : Heap) (n0 : Nat) (v : Option Value) (h : Heap) (L : List Loc) : Prop := v = some (.int (1 : Int32)) ∧ Fr n0 L ∧ h = h0
set_option maxRecDepth 65536 in
set_option maxHeartbeats 40000000 in
theorem rmCod1 (l : Launch) (Z : State) (a0 : Array Value) (hw : ∀ d ∈ tables_1, d.before a0 Z = true) (ws : List Jvm.Cond) (so : Nat) (zc : Int32) (h0 : Heap) (n0 : Nat) (Z0 : n0 ≤ h0.size) (P1 : Fld Z h0 so "java/lang/String" "coder" "B" (.int (1 : Int32))) (OLD : Old Z n0 h0) (P2 : Sta Z Z.heap "java/lang/String" "COMPACT_STRINGS" "Z" (.int zc)) (hzc : ¬ (zc = (0 : Int32))) :
    MetFree l (⟨"java/lang/String", "coder", "()B"⟩ : MethodName) (head1 (Jvm.Cond.code (⟨"java/lang/String", "coder", "()B"⟩ : MethodName) jdk_42_method_152_code 1 (some .byte) :: ws) ({ frames := 0, cells := 0, slots := 0, locals := 0 } : Room)) (fun a U => a = #[(.ref so)] ∧ Z.Warmed39 U.vm ∧ U.heap = h0) (fun _ _ _ _ _ => True) (fun _ U o U' => ∃ v L, o = .returned v ∧ Q_rmCod1 Z so zc h0 n0 v U'.heap L ∧ FrameEnd U o U' L ({ frames := 0, cells := 0, slots := 0, locals := 0 } : Room).cells ({ frames := 0, cells := 0, slots := 0, locals := 0 } : Room).slots) := by
  refine MetFree.of_bodySF (plainFor_of_name pn_java_lang_String) hisR ?_
  intro p e s m args below meth c s₁ Bd hml0 hP hK
  obtain ⟨rfl, hZ, hh⟩ := hP
  have hx := Bd.exec
  have hby := Bd.bytes
  have hml : c.maxLocals = 1 := hml0
  have hown : s.vm.findClass "java/lang/String" = some m.cls := findClass_of_methodNamed Bd.named
  have hnm := (name_of_methodNamed Bd.named Bd.method).1
  have X0 : Stand p l e ({ frames := 0, cells := 0, slots := 0, locals := 0 } : Room) s m #[(.ref so)] below meth c s₁ [] 0 0 := Stand.of_body Bd
  have e0 : s₁.heap = h0 := by rw [← hh, Bd.state]; rfl
  have N0 := Fr.nil n0
  have pre0 : ∀ t, Steps p.tables e below (s₁.setTop (mkF m 0 #[.val (.ref so)] [])) t → Steps p.tables e below (s₁.setTop (entryFrame m #[(.ref so)] 1)) t := fun t k => castTop (ef_rmCod1 m so) k
  have oz := OLD.1
  have lt_so : so < h0.size := P1.lt
  refine own_go (B := s₁.setTop (mkF m 0 #[.val (.ref so)] [])) pre0 ?_
  show ∃ t o, Steps p.tables e below (s₁.setTop (mkF m 0 #[.val (.ref so)] [])) t ∧ _
  obtain ⟨T3, X3, e3, st3⟩ := getS2 X0 hx hZ hown (host := "") (Or.inl (hw _ (List.mem_of_getElem? (i := 14) rfl))) Via.refl e0 (Sta.ext OLD.2 P2) (g := (mkF m 0 #[.val (.ref so)] [])) rfl (hb hby d13_0)
  refine own_go st3 ?_
  show ∃ t o, Steps p.tables e below (T3.setTop (mkF m 3 #[.val (.ref so)] [(.int zc)])) t ∧ _
  refine own_go (fun _ => XS.ifNo X3.here hx rfl (hb hby d13_3) rfl ((if0 _ _).trans (feq hzc).1)) ?_
  refine own_go (fun _ => XS.aloadN X3.here hx rfl (hb hby d13_6) rfl rfl) ?_
  obtain ⟨T4, X4, e4, st4⟩ := getF X3 hx hZ hown (host := "") (Or.inl (hw _ (List.mem_of_getElem? (i := 26) rfl))) Via.refl e3 P1 (g := (mkF m 7 #[.val (.ref so)] [(.ref so)])) rfl rfl (hb hby d13_7)
  refine own_go st4 ?_
  refine own_go (fun _ => XS.goto X4.here hx rfl (pc0 := 10) (pc' := 14) rfl (hb hby d13_10) (by decide) (by decide)) ?_
  show ∃ t o, Steps p.tables e below (T4.setTop (mkF m 14 #[.val (.ref so)] [(.int (1 : Int32))])) t ∧ _
  obtain ⟨fs, hr, hrun, hended, hW, hsame⟩ := X4.leave (v := some (.int (1 : Int32))) (fun h => by rw [Bd.returns] at h; cases h)
  refine ⟨_, _, ?_, hrun, hended, _, _, rfl, ?_, ⟨_, rfl⟩, hW, hsame.mono (by decide) (by decide)⟩
  · exact retN X4 hx (t := .byte) Bd.returns (by simp) (hb hby d13_14) hr
  · show Q_rmCod1 Z _ _ h0 n0 _ T4.heap _
    rw [e4]
    exact ⟨rfl, N0, rfl⟩
theorem ef_rmLenU (m : MethodId) (x0 : Nat) : entryFrame m #[(.ref x0)] 1 = mkF m 0 #[.val (.ref x0)] [] := by first | (simp [entryFrame, mkF, argsToLocals, Value.category]; done) | rfl
def Q_rmLenU (Z : State) (so : Nat) (tb : Nat) (kb : ClassId) (vs : List Value) (zc : Int32) (h0 : Heap) (n0 : Nat) (v : Option Value) (h : Heap) (L : List Loc) : Prop := v = some (.int (3 : Int32)) ∧ Fr n0 L ∧ h = h0
set_option maxRecDepth 65536 in
set_option maxHeartbeats 40000000 in
theorem rmLenU (l : Launch) (Z : State) (a0 : Array Value) (hw : ∀ d ∈ tables_1, d.before a0 Z = true) (ws : List Jvm.Cond) (so : Nat) (tb : Nat) (kb : ClassId) (vs : List Value) (zc : Int32) (h0 : Heap) (n0 : Nat) (Z0 : n0 ≤ h0.size) (P1 : Exa Z h0 so "java/lang/String") (P2 : Fld Z h0 so "java/lang/String" "value" "[B" (.ref tb)) (P3 : Fld Z h0 so "java/lang/String" "coder" "B" (.int (1 : Int32))) (P4 : Arv Z h0 tb kb .byte (6 : Int32) vs (.int (0 : Int32))) (OLD : Old Z n0 h0) (P5 : Sta Z Z.heap "java/lang/String" "COMPACT_STRINGS" "Z" (.int zc)) (hzc : ¬ (zc = (0 : Int32))) :
    MetFree l (⟨"java/lang/String", "length", "()I"⟩ : MethodName) (head1 (Jvm.Cond.code (⟨"java/lang/String", "length", "()I"⟩ : MethodName) jdk_42_method_54_code 1 (some .int) :: ws) ({ frames := 1, cells := 0, slots := 0, locals := 13 } : Room)) (fun a U => a = #[(.ref so)] ∧ Z.Warmed39 U.vm ∧ U.heap = h0) (fun _ _ _ _ _ => True) (fun _ U o U' => ∃ v L, o = .returned v ∧ Q_rmLenU Z so tb kb vs zc h0 n0 v U'.heap L ∧ FrameEnd U o U' L ({ frames := 1, cells := 0, slots := 0, locals := 13 } : Room).cells ({ frames := 1, cells := 0, slots := 0, locals := 13 } : Room).slots) := by
  refine MetFree.of_bodySF (plainFor_of_name pn_java_lang_String) hisR ?_
  intro p e s m args below meth c s₁ Bd hml0 hP hK
  obtain ⟨rfl, hZ, hh⟩ := hP
  have hx := Bd.exec
  have hby := Bd.bytes
  have hml : c.maxLocals = 1 := hml0
  have hown : s.vm.findClass "java/lang/String" = some m.cls := findClass_of_methodNamed Bd.named
  have hnm := (name_of_methodNamed Bd.named Bd.method).1
  have X0 : Stand p l e ({ frames := 1, cells := 0, slots := 0, locals := 13 } : Room) s m #[(.ref so)] below meth c s₁ [] 0 0 := Stand.of_body Bd
  have e0 : s₁.heap = h0 := by rw [← hh, Bd.state]; rfl
  have N0 := Fr.nil n0
  have pre0 : ∀ t, Steps p.tables e below (s₁.setTop (mkF m 0 #[.val (.ref so)] [])) t → Steps p.tables e below (s₁.setTop (entryFrame m #[(.ref so)] 1)) t := fun t k => castTop (ef_rmLenU m so) k
  have w_76 := hw _ (List.mem_of_getElem? (i := 76) rfl)
  have oz := OLD.1
  have lt_so : so < h0.size := P1.lt
  have lt_tb : tb < h0.size := P4.lt
  refine own_go (B := s₁.setTop (mkF m 0 #[.val (.ref so)] [])) pre0 ?_
  show ∃ t o, Steps p.tables e below (s₁.setTop (mkF m 0 #[.val (.ref so)] [])) t ∧ _
  refine own_go (fun _ => XS.aloadN X0.here hx rfl (hb hby d12_0) rfl rfl) ?_
  obtain ⟨T6, X6, e6, st6⟩ := getF X0 hx hZ hown (host := "") (Or.inl (hw _ (List.mem_of_getElem? (i := 28) rfl))) Via.refl e0 P2 (g := (mkF m 1 #[.val (.ref so)] [(.ref so)])) rfl rfl (hb hby d12_1)
  refine own_go st6 ?_
  obtain ⟨cl7, Ar7, q7, S7, N7, H7, G7⟩ := id P4
  have ln7 : cl7.slots.size.toInt32 = (6 : Int32) := len_of S7 N7
  have al7 := X6.arraylength hx (by rw [e6]; exact Ar7.1) (State.isArrayOf_alike hZ.alike Ar7.2.1) (g := (mkF m 4 #[.val (.ref so)] [(.ref tb)])) rfl rfl (hb hby d12_4)
  rw [ln7] at al7
  refine own_go al7 ?_
  refine own_go (fun _ => XS.aloadN X6.here hx rfl (hb hby d12_5) rfl rfl) ?_
  show ∃ t o, Steps p.tables e below (T6.setTop (mkF m 6 #[.val (.ref so)] [(.ref so), (.int (6 : Int32))])) t ∧ _
  obtain ⟨cq8, kq8, q8a, q8b, q8c⟩ := isOf hZ e6 P1
  obtain ⟨_, _, ⟨T8, L8, k8, n8⟩, -, X8, ⟨Lc8, hQ8, l8, y8, z8⟩, st8⟩ := X6.virtualBack hx (y := (⟨"java/lang/String", "coder", "()B"⟩ : MethodName)) (z := (⟨"java/lang/String", "coder", "()B"⟩ : MethodName)) hown (mvT hZ (hw _ (List.mem_of_getElem? (i := 73) rfl))) (mvT hZ (hw _ (List.mem_of_getElem? (i := 74) rfl))) (notFace_of_selects (args := #[]) (mvT hZ w_76)) (mvT hZ w_76) (mvT hZ (hw _ (List.mem_of_getElem? (i := 75) rfl))) (by decide) (backOf (W := 1) (rmCod1 l Z a0 hw [] so zc h0 n0 Z0 P3 OLD P5 hzc) hZ (hw _ (List.mem_of_getElem? (i := 77) rfl)) (hw _ (List.mem_of_getElem? (i := 2) rfl)) (by decide) (by decide)) q8a q8c (g := (mkF m 6 #[.val (.ref so)] [(.ref so), (.int (6 : Int32))])) rfl (by rw [hml]; rfl) (Steps.refl _) (argsL := []) (rest := [(.int (6 : Int32))]) (lenOf pd__28_29B rfl) rfl (by show 2 * 0 + _ ≤ _; exact Nat.le_of_eq rfl) (hb hby d12_6) (fun _ _ => ⟨rfl, e6, (by decide : 0 + 0 ≤ _), (by decide : 0 + 0 ≤ _)⟩)
  dsimp only [Pt.U, Pt.locs, Pt.cells, Pt.slots] at X8 l8 y8 z8 st8 hQ8
  rw [l8, y8, z8] at X8
  obtain ⟨rfl, Nq8, e8⟩ := hQ8
  have N8 := Fr.app N0 Nq8
  refine own_goT st8 ?_
  refine own_go (fun _ => XS.ishr X8.here hx rfl (hb hby d12_9) rfl) ?_
  show ∃ t o, Steps p.tables e below (T8.setTop (mkF m 10 #[.val (.ref so)] [(.int (3 : Int32))])) t ∧ _
  obtain ⟨fs, hr, hrun, hended, hW, hsame⟩ := X8.leave (v := some (.int (3 : Int32))) (fun h => by rw [Bd.returns] at h; cases h)
  refine ⟨_, _, ?_, hrun, hended, _, _, rfl, ?_, ⟨_, rfl⟩, hW, hsame.mono (by decide) (by decide)⟩
  · exact retI X8 hx Bd.returns (hb hby d12_10) hr
  · show Q_rmLenU Z _ _ _ _ _ h0 n0 _ T8.heap _
    rw [e8]
    exact ⟨rfl, N8, rfl⟩
theorem ef_rmCfsN (m : MethodId) (x0 : Int32) (x1 : Int32) (x2 : Int32) : entryFrame m #[(.int x0), (.int x1), (.int x2), .null] 4 = mkF m 0 #[.val (.int x0), .val (.int x1), .val (.int x2), .val .null] [] := by first | (simp [entryFrame, mkF, argsToLocals, Value.category]; done) | rfl
theorem d49_0 : decode jdk_41_method_13_code 0 = .ok (.iload_n 2, 1) := by decide +kernel
theorem d49_1 : decode jdk_41_method_13_code 1 = .ok (.iload_n 0, 1) := by decide +kernel
theorem d49_2 : decode jdk_41_method_13_code 2 = .ok (.ior, 1) := by decide +kernel
theorem d49_3 : decode jdk_41_method_13_code 3 = .ok (.iload_n 1, 1) := by decide +kernel
theorem d49_4 : decode jdk_41_method_13_code 4 = .ok (.ior, 1) := by decide +kernel
theorem d49_5 : decode jdk_41_method_13_code 5 = .ok (.ifCond .lt 10, 3) := by decide +kernel
theorem d49_8 : decode jdk_41_method_13_code 8 = .ok (.iload_n 1, 1) := by decide +kernel
theorem d49_9 : decode jdk_41_method_13_code 9 = .ok (.iload_n 2, 1) := by decide +kernel
theorem d49_10 : decode jdk_41_method_13_code 10 = .ok (.iload_n 0, 1) := by decide +kernel
theorem d49_11 : decode jdk_41_method_13_code 11 = .ok (.isub, 1) := by decide +kernel
theorem d49_12 : decode jdk_41_method_13_code 12 = .ok (.if_icmp .le 11, 3) := by decide +kernel
theorem d49_23 : decode jdk_41_method_13_code 23 = .ok (.iload_n 0, 1) := by decide +kernel
theorem d49_24 : decode jdk_41_method_13_code 24 = .ok (.ireturn, 1) := by decide +kernel
theorem pn_jdk_internal_util_Preconditions : plainName "jdk/internal/util/Preconditions" = true := by first | (simp [plainName, overriddenIn]; done) | decide +kernel
def Q_rmCfsN (Z : State)  (h0 : Heap) (n0 : Nat) (v : Option Value) (h : Heap) (L : List Loc) : Prop := v = some (.int (0 : Int32)) ∧ Fr n0 L ∧ h = h0
set_option maxRecDepth 65536 in
set_option maxHeartbeats 40000000 in
theorem rmCfsN (l : Launch) (Z : State) (a0 : Array Value) (hw : ∀ d ∈ tables_1, d.before a0 Z = true) (ws : List Jvm.Cond)  (h0 : Heap) (n0 : Nat) (Z0 : n0 ≤ h0.size) (OLD : Old Z n0 h0) :
    MetFree l (⟨"jdk/internal/util/Preconditions", "checkFromIndexSize", "(IIILjava/util/function/BiFunction;)I"⟩ : MethodName) (head1 (Jvm.Cond.code (⟨"jdk/internal/util/Preconditions", "checkFromIndexSize", "(IIILjava/util/function/BiFunction;)I"⟩ : MethodName) jdk_41_method_13_code 4 (some .int) :: ws) ({ frames := 0, cells := 0, slots := 0, locals := 0 } : Room)) (fun a U => a = #[(.int (0 : Int32)), (.int (31 : Int32)), (.int (34 : Int32)), .null] ∧ Z.Warmed39 U.vm ∧ U.heap = h0) (fun _ _ _ _ _ => True) (fun _ U o U' => ∃ v L, o = .returned v ∧ Q_rmCfsN Z  h0 n0 v U'.heap L ∧ FrameEnd U o U' L ({ frames := 0, cells := 0, slots := 0, locals := 0 } : Room).cells ({ frames := 0, cells := 0, slots := 0, locals := 0 } : Room).slots) := by
  refine MetFree.of_bodySF (plainFor_of_name pn_jdk_internal_util_Preconditions) hisR ?_
  intro p e s m args below meth c s₁ Bd hml0 hP hK
  obtain ⟨rfl, hZ, hh⟩ := hP
  have hx := Bd.exec
  have hby := Bd.bytes
  have hml : c.maxLocals = 4 := hml0
  have hown : s.vm.findClass "jdk/internal/util/Preconditions" = some m.cls := findClass_of_methodNamed Bd.named
  have hnm := (name_of_methodNamed Bd.named Bd.method).1
  have X0 : Stand p l e ({ frames := 0, cells := 0, slots := 0, locals := 0 } : Room) s m #[(.int (0 : Int32)), (.int (31 : Int32)), (.int (34 : Int32)), .null] below meth c s₁ [] 0 0 := Stand.of_body Bd
  have e0 : s₁.heap = h0 := by rw [← hh, Bd.state]; rfl
  have N0 := Fr.nil n0
  have pre0 : ∀ t, Steps p.tables e below (s₁.setTop (mkF m 0 #[.val (.int (0 : Int32)), .val (.int (31 : Int32)), .val (.int (34 : Int32)), .val .null] [])) t → Steps p.tables e below (s₁.setTop (entryFrame m #[(.int (0 : Int32)), (.int (31 : Int32)), (.int (34 : Int32)), .null] 4)) t := fun t k => castTop (ef_rmCfsN m (0 : Int32) (31 : Int32) (34 : Int32)) k
  have oz := OLD.1
  refine own_go (B := s₁.setTop (mkF m 0 #[.val (.int (0 : Int32)), .val (.int (31 : Int32)), .val (.int (34 : Int32)), .val .null] [])) pre0 ?_
  show ∃ t o, Steps p.tables e below (s₁.setTop (mkF m 0 #[.val (.int (0 : Int32)), .val (.int (31 : Int32)), .val (.int (34 : Int32)), .val .null] [])) t ∧ _
  refine own_go (fun _ => XS.iloadN X0.here hx rfl (hb hby d49_0) rfl) ?_
  refine own_go (fun _ => XS.iloadN X0.here hx rfl (hb hby d49_1) rfl) ?_
  refine own_go (fun _ => XS.ior X0.here hx rfl (hb hby d49_2) rfl) ?_
  refine own_go (fun _ => XS.iloadN X0.here hx rfl (hb hby d49_3) rfl) ?_
  refine own_go (fun _ => XS.ior X0.here hx rfl (hb hby d49_4) rfl) ?_
  show ∃ t o, Steps p.tables e below (s₁.setTop (mkF m 5 #[.val (.int (0 : Int32)), .val (.int (31 : Int32)), .val (.int (34 : Int32)), .val .null] [(.int (63 : Int32))])) t ∧ _
  refine own_go (fun _ => XS.ifNo X0.here hx rfl (hb hby d49_5) rfl ((if0 _ _).trans (flt (by decide : ¬ ((63 : Int32) < (0 : Int32)))).1)) ?_
  refine own_go (fun _ => XS.iloadN X0.here hx rfl (hb hby d49_8) rfl) ?_
  refine own_go (fun _ => XS.iloadN X0.here hx rfl (hb hby d49_9) rfl) ?_
  refine own_go (fun _ => XS.iloadN X0.here hx rfl (hb hby d49_10) rfl) ?_
  refine own_go (fun _ => XS.isub X0.here hx rfl (hb hby d49_11) rfl) ?_
  show ∃ t o, Steps p.tables e below (s₁.setTop (mkF m 12 #[.val (.int (0 : Int32)), .val (.int (31 : Int32)), .val (.int (34 : Int32)), .val .null] [(.int (34 : Int32)), (.int (31 : Int32))])) t ∧ _
  refine own_go (fun _ => XS.icmpYes X0.here hx rfl (pc0 := 12) (pc' := 23) rfl (hb hby d49_12) rfl (flt (by decide : ¬ ((34 : Int32) < (31 : Int32)))).2.2.2 (by decide) (by decide)) ?_
  refine own_go (fun _ => XS.iloadN X0.here hx rfl (hb hby d49_23) rfl) ?_
  show ∃ t o, Steps p.tables e below (s₁.setTop (mkF m 24 #[.val (.int (0 : Int32)), .val (.int (31 : Int32)), .val (.int (34 : Int32)), .val .null] [(.int (0 : Int32))])) t ∧ _
  obtain ⟨fs, hr, hrun, hended, hW, hsame⟩ := X0.leave (v := some (.int (0 : Int32))) (fun h => by rw [Bd.returns] at h; cases h)
  refine ⟨_, _, ?_, hrun, hended, _, _, rfl, ?_, ⟨_, rfl⟩, hW, hsame.mono (by decide) (by decide)⟩
  · exact retI X0 hx Bd.returns (hb hby d49_24) hr
  · show Q_rmCfsN Z  h0 n0 _ s₁.heap _
    rw [e0]
    exact ⟨rfl, N0, rfl⟩
theorem ef_rmCfsR (m : MethodId) (x0 : Int32) (x1 : Int32) (x2 : Int32) (x3 : Nat) : entryFrame m #[(.int x0), (.int x1), (.int x2), (.ref x3)] 4 = mkF m 0 #[.val (.int x0), .val (.int x1), .val (.int x2), .val (.ref x3)] [] := by first | (simp [entryFrame, mkF, argsToLocals, Value.category]; done) | rfl
def Q_rmCfsR (Z : State) (ga : Nat) (h0 : Heap) (n0 : Nat) (v : Option Value) (h : Heap) (L : List Loc) : Prop := v = some (.int (0 : Int32)) ∧ Fr n0 L ∧ h = h0
set_option maxRecDepth 65536 in
set_option maxHeartbeats 40000000 in
theorem rmCfsR (l : Launch) (Z : State) (a0 : Array Value) (hw : ∀ d ∈ tables_1, d.before a0 Z = true) (ws : List Jvm.Cond) (ga : Nat) (h0 : Heap) (n0 : Nat) (Z0 : n0 ≤ h0.size) (OLD : Old Z n0 h0) :
    MetFree l (⟨"jdk/internal/util/Preconditions", "checkFromIndexSize", "(IIILjava/util/function/BiFunction;)I"⟩ : MethodName) (head1 (Jvm.Cond.code (⟨"jdk/internal/util/Preconditions", "checkFromIndexSize", "(IIILjava/util/function/BiFunction;)I"⟩ : MethodName) jdk_41_method_13_code 4 (some .int) :: ws) ({ frames := 0, cells := 0, slots := 0, locals := 0 } : Room)) (fun a U => a = #[(.int (0 : Int32)), (.int (31 : Int32)), (.int (34 : Int32)), (.ref ga)] ∧ Z.Warmed39 U.vm ∧ U.heap = h0) (fun _ _ _ _ _ => True) (fun _ U o U' => ∃ v L, o = .returned v ∧ Q_rmCfsR Z ga h0 n0 v U'.heap L ∧ FrameEnd U o U' L ({ frames := 0, cells := 0, slots := 0, locals := 0 } : Room).cells ({ frames := 0, cells := 0, slots := 0, locals := 0 } : Room).slots) := by
  refine MetFree.of_bodySF (plainFor_of_name pn_jdk_internal_util_Preconditions) hisR ?_
  intro p e s m args below meth c s₁ Bd hml0 hP hK
  obtain ⟨rfl, hZ, hh⟩ := hP
  have hx := Bd.exec
  have hby := Bd.bytes
  have hml : c.maxLocals = 4 := hml0
  have hown : s.vm.findClass "jdk/internal/util/Preconditions" = some m.cls := findClass_of_methodNamed Bd.named
  have hnm := (name_of_methodNamed Bd.named Bd.method).1
  have X0 : Stand p l e ({ frames := 0, cells := 0, slots := 0, locals := 0 } : Room) s m #[(.int (0 : Int32)), (.int (31 : Int32)), (.int (34 : Int32)), (.ref ga)] below meth c s₁ [] 0 0 := Stand.of_body Bd
  have e0 : s₁.heap = h0 := by rw [← hh, Bd.state]; rfl
  have N0 := Fr.nil n0
  have pre0 : ∀ t, Steps p.tables e below (s₁.setTop (mkF m 0 #[.val (.int (0 : Int32)), .val (.int (31 : Int32)), .val (.int (34 : Int32)), .val (.ref ga)] [])) t → Steps p.tables e below (s₁.setTop (entryFrame m #[(.int (0 : Int32)), (.int (31 : Int32)), (.int (34 : Int32)), (.ref ga)] 4)) t := fun t k => castTop (ef_rmCfsR m (0 : Int32) (31 : Int32) (34 : Int32) ga) k
  have oz := OLD.1
  refine own_go (B := s₁.setTop (mkF m 0 #[.val (.int (0 : Int32)), .val (.int (31 : Int32)), .val (.int (34 : Int32)), .val (.ref ga)] [])) pre0 ?_
  show ∃ t o, Steps p.tables e below (s₁.setTop (mkF m 0 #[.val (.int (0 : Int32)), .val (.int (31 : Int32)), .val (.int (34 : Int32)), .val (.ref ga)] [])) t ∧ _
  refine own_go (fun _ => XS.iloadN X0.here hx rfl (hb hby d49_0) rfl) ?_
  refine own_go (fun _ => XS.iloadN X0.here hx rfl (hb hby d49_1) rfl) ?_
  refine own_go (fun _ => XS.ior X0.here hx rfl (hb hby d49_2) rfl) ?_
  refine own_go (fun _ => XS.iloadN X0.here hx rfl (hb hby d49_3) rfl) ?_
  refine own_go (fun _ => XS.ior X0.here hx rfl (hb hby d49_4) rfl) ?_
  show ∃ t o, Steps p.tables e below (s₁.setTop (mkF m 5 #[.val (.int (0 : Int32)), .val (.int (31 : Int32)), .val (.int (34 : Int32)), .val (.ref ga)] [(.int (63 : Int32))])) t ∧ _
  refine own_go (fun _ => XS.ifNo X0.here hx rfl (hb hby d49_5) rfl ((if0 _ _).trans (flt (by decide : ¬ ((63 : Int32) < (0 : Int32)))).1)) ?_
  refine own_go (fun _ => XS.iloadN X0.here hx rfl (hb hby d49_8) rfl) ?_
  refine own_go (fun _ => XS.iloadN X0.here hx rfl (hb hby d49_9) rfl) ?_
  refine own_go (fun _ => XS.iloadN X0.here hx rfl (hb hby d49_10) rfl) ?_
  refine own_go (fun _ => XS.isub X0.here hx rfl (hb hby d49_11) rfl) ?_
  show ∃ t o, Steps p.tables e below (s₁.setTop (mkF m 12 #[.val (.int (0 : Int32)), .val (.int (31 : Int32)), .val (.int (34 : Int32)), .val (.ref ga)] [(.int (34 : Int32)), (.int (31 : Int32))])) t ∧ _
  refine own_go (fun _ => XS.icmpYes X0.here hx rfl (pc0 := 12) (pc' := 23) rfl (hb hby d49_12) rfl (flt (by decide : ¬ ((34 : Int32) < (31 : Int32)))).2.2.2 (by decide) (by decide)) ?_
  refine own_go (fun _ => XS.iloadN X0.here hx rfl (hb hby d49_23) rfl) ?_
  show ∃ t o, Steps p.tables e below (s₁.setTop (mkF m 24 #[.val (.int (0 : Int32)), .val (.int (31 : Int32)), .val (.int (34 : Int32)), .val (.ref ga)] [(.int (0 : Int32))])) t ∧ _
  obtain ⟨fs, hr, hrun, hended, hW, hsame⟩ := X0.leave (v := some (.int (0 : Int32))) (fun h => by rw [Bd.returns] at h; cases h)
  refine ⟨_, _, ?_, hrun, hended, _, _, rfl, ?_, ⟨_, rfl⟩, hW, hsame.mono (by decide) (by decide)⟩
  · exact retI X0 hx Bd.returns (hb hby d49_24) hr
  · show Q_rmCfsR Z _ h0 n0 _ s₁.heap _
    rw [e0]
    exact ⟨rfl, N0, rfl⟩
theorem ef_rmSbo (m : MethodId) (x0 : Int32) (x1 : Int32) (x2 : Int32) : entryFrame m #[(.int x0), (.int x1), (.int x2)] 3 = mkF m 0 #[.val (.int x0), .val (.int x1), .val (.int x2)] [] := by first | (simp [entryFrame, mkF, argsToLocals, Value.category]; done) | rfl
theorem d48_0 : decode jdk_42_method_157_code 0 = .ok (.iload_n 0, 1) := by decide +kernel
theorem d48_1 : decode jdk_42_method_157_code 1 = .ok (.iload_n 1, 1) := by decide +kernel
theorem d48_2 : decode jdk_42_method_157_code 2 = .ok (.iload_n 2, 1) := by decide +kernel
theorem d48_3 : decode jdk_42_method_157_code 3 = .ok (.getstatic 1053, 3) := by decide +kernel
theorem d48_6 : decode jdk_42_method_157_code 6 = .ok (.invokestatic 1065, 3) := by decide +kernel
theorem pd__28IIILjava_2futil_2ffunction_2fBiFunction_3b_29I : parseMethodDescriptor "(IIILjava/util/function/BiFunction;)I" = some ⟨[.int, .int, .int, (.object "java/util/function/BiFunction")], some .int⟩ := by decide +kernel
theorem d48_9 : decode jdk_42_method_157_code 9 = .ok (.ireturn, 1) := by decide +kernel
def Q_rmSbo (Z : State) (gv : Value) (h0 : Heap) (n0 : Nat) (v : Option Value) (h : Heap) (L : List Loc) : Prop := v = some (.int (0 : Int32)) ∧ Fr n0 L ∧ h = h0
set_option maxRecDepth 65536 in
set_option maxHeartbeats 40000000 in
theorem rmSbo (l : Launch) (Z : State) (a0 : Array Value) (hw : ∀ d ∈ tables_1, d.before a0 Z = true) (ws : List Jvm.Cond) (gv : Value) (h0 : Heap) (n0 : Nat) (Z0 : n0 ≤ h0.size) (OLD : Old Z n0 h0) (P1 : Sta Z Z.heap "jdk/internal/util/Preconditions" "SIOOBE_FORMATTER" "Ljava/util/function/BiFunction;" gv) (hgv : gv.isRef = true) :
    MetFree l (⟨"java/lang/String", "checkBoundsOffCount", "(III)I"⟩ : MethodName) (head1 (Jvm.Cond.code (⟨"java/lang/String", "checkBoundsOffCount", "(III)I"⟩ : MethodName) jdk_42_method_157_code 3 (some .int) :: ws) ({ frames := 1, cells := 0, slots := 0, locals := 15 } : Room)) (fun a U => a = #[(.int (0 : Int32)), (.int (31 : Int32)), (.int (34 : Int32))] ∧ Z.Warmed39 U.vm ∧ U.heap = h0) (fun _ _ _ _ _ => True) (fun _ U o U' => ∃ v L, o = .returned v ∧ Q_rmSbo Z gv h0 n0 v U'.heap L ∧ FrameEnd U o U' L ({ frames := 1, cells := 0, slots := 0, locals := 15 } : Room).cells ({ frames := 1, cells := 0, slots := 0, locals := 15 } : Room).slots) := by
  refine MetFree.of_bodySF (plainFor_of_name pn_java_lang_String) hisR ?_
  intro p e s m args below meth c s₁ Bd hml0 hP hK
  obtain ⟨rfl, hZ, hh⟩ := hP
  have hx := Bd.exec
  have hby := Bd.bytes
  have hml : c.maxLocals = 3 := hml0
  have hown : s.vm.findClass "java/lang/String" = some m.cls := findClass_of_methodNamed Bd.named
  have hnm := (name_of_methodNamed Bd.named Bd.method).1
  have X0 : Stand p l e ({ frames := 1, cells := 0, slots := 0, locals := 15 } : Room) s m #[(.int (0 : Int32)), (.int (31 : Int32)), (.int (34 : Int32))] below meth c s₁ [] 0 0 := Stand.of_body Bd
  have e0 : s₁.heap = h0 := by rw [← hh, Bd.state]; rfl
  have N0 := Fr.nil n0
  have pre0 : ∀ t, Steps p.tables e below (s₁.setTop (mkF m 0 #[.val (.int (0 : Int32)), .val (.int (31 : Int32)), .val (.int (34 : Int32))] [])) t → Steps p.tables e below (s₁.setTop (entryFrame m #[(.int (0 : Int32)), (.int (31 : Int32)), (.int (34 : Int32))] 3)) t := fun t k => castTop (ef_rmSbo m (0 : Int32) (31 : Int32) (34 : Int32)) k
  have w_248 := hw _ (List.mem_of_getElem? (i := 248) rfl)
  have w_249 := hw _ (List.mem_of_getElem? (i := 249) rfl)
  have w_250 := hw _ (List.mem_of_getElem? (i := 250) rfl)
  have w_251 := hw _ (List.mem_of_getElem? (i := 251) rfl)
  have w_252 := hw _ (List.mem_of_getElem? (i := 252) rfl)
  have oz := OLD.1
  refine own_go (B := s₁.setTop (mkF m 0 #[.val (.int (0 : Int32)), .val (.int (31 : Int32)), .val (.int (34 : Int32))] [])) pre0 ?_
  show ∃ t o, Steps p.tables e below (s₁.setTop (mkF m 0 #[.val (.int (0 : Int32)), .val (.int (31 : Int32)), .val (.int (34 : Int32))] [])) t ∧ _
  rcases ref_cases hgv with hg0 | ⟨ga, hg0⟩
  · subst hg0
    show ∃ t o, Steps p.tables e below (s₁.setTop (mkF m 0 #[.val (.int (0 : Int32)), .val (.int (31 : Int32)), .val (.int (34 : Int32))] [])) t ∧ _
    refine own_go (fun _ => XS.iloadN X0.here hx rfl (hb hby d48_0) rfl) ?_
    refine own_go (fun _ => XS.iloadN X0.here hx rfl (hb hby d48_1) rfl) ?_
    refine own_go (fun _ => XS.iloadN X0.here hx rfl (hb hby d48_2) rfl) ?_
    obtain ⟨T2, X2, e2, st2⟩ := getS2 X0 hx hZ hown (host := "") (Or.inl w_248) Via.refl e0 (Sta.ext OLD.2 P1) (g := (mkF m 3 #[.val (.int (0 : Int32)), .val (.int (31 : Int32)), .val (.int (34 : Int32))] [(.int (34 : Int32)), (.int (31 : Int32)), (.int (0 : Int32))])) rfl (hb hby d48_3)
    refine own_go st2 ?_
    show ∃ t o, Steps p.tables e below (T2.setTop (mkF m 6 #[.val (.int (0 : Int32)), .val (.int (31 : Int32)), .val (.int (34 : Int32))] [.null, (.int (34 : Int32)), (.int (31 : Int32)), (.int (0 : Int32))])) t ∧ _
    obtain ⟨_, _, ⟨T3, L3, k3, n3⟩, -, X3, ⟨Lc3, hQ3, l3, y3, z3⟩, st3⟩ := Jvm.LawKit.callS X2 hx (y := (⟨"jdk/internal/util/Preconditions", "checkFromIndexSize", "(IIILjava/util/function/BiFunction;)I"⟩ : MethodName)) hown (mvT hZ w_250) (mvT hZ w_251) (mvT hZ w_249) (mvT hZ w_252) (by decide) (backOf (W := 0) (rmCfsN l Z a0 hw []  h0 n0 Z0 OLD) hZ w_252 w_249 (by decide) (by decide)) (g := (mkF m 6 #[.val (.int (0 : Int32)), .val (.int (31 : Int32)), .val (.int (34 : Int32))] [.null, (.int (34 : Int32)), (.int (31 : Int32)), (.int (0 : Int32))])) rfl (by rw [hml]; rfl) (argsL := [(.int (0 : Int32)), (.int (31 : Int32)), (.int (34 : Int32)), .null]) (rest := []) (lenOf pd__28IIILjava_2futil_2ffunction_2fBiFunction_3b_29I rfl) rfl (by show 2 * 0 + _ ≤ _; exact Nat.le_of_eq rfl) (hb hby d48_6) (fun _ _ => ⟨rfl, e2, (by decide : 0 + 0 ≤ _), (by decide : 0 + 0 ≤ _)⟩)
    dsimp only [Pt.U, Pt.locs, Pt.cells, Pt.slots] at X3 l3 y3 z3 st3 hQ3
    rw [l3, y3, z3] at X3
    obtain ⟨rfl, Nq3, e3⟩ := hQ3
    have N3 := Fr.app N0 Nq3
    refine own_go st3 ?_
    show ∃ t o, Steps p.tables e below (T3.setTop (mkF m 9 #[.val (.int (0 : Int32)), .val (.int (31 : Int32)), .val (.int (34 : Int32))] [(.int (0 : Int32))])) t ∧ _
    obtain ⟨fs, hr, hrun, hended, hW, hsame⟩ := X3.leave (v := some (.int (0 : Int32))) (fun h => by rw [Bd.returns] at h; cases h)
    refine ⟨_, _, ?_, hrun, hended, _, _, rfl, ?_, ⟨_, rfl⟩, hW, hsame.mono (by decide) (by decide)⟩
    · exact retI X3 hx Bd.returns (hb hby d48_9) hr
    · show Q_rmSbo Z _ h0 n0 _ T3.heap _
      rw [e3]
      exact ⟨rfl, N3, rfl⟩
  · subst hg0
    show ∃ t o, Steps p.tables e below (s₁.setTop (mkF m 0 #[.val (.int (0 : Int32)), .val (.int (31 : Int32)), .val (.int (34 : Int32))] [])) t ∧ _
    refine own_go (fun _ => XS.iloadN X0.here hx rfl (hb hby d48_0) rfl) ?_
    refine own_go (fun _ => XS.iloadN X0.here hx rfl (hb hby d48_1) rfl) ?_
    refine own_go (fun _ => XS.iloadN X0.here hx rfl (hb hby d48_2) rfl) ?_
    obtain ⟨T4, X4, e4, st4⟩ := getS2 X0 hx hZ hown (host := "") (Or.inl w_248) Via.refl e0 (Sta.ext OLD.2 P1) (g := (mkF m 3 #[.val (.int (0 : Int32)), .val (.int (31 : Int32)), .val (.int (34 : Int32))] [(.int (34 : Int32)), (.int (31 : Int32)), (.int (0 : Int32))])) rfl (hb hby d48_3)
    refine own_go st4 ?_
    show ∃ t o, Steps p.tables e below (T4.setTop (mkF m 6 #[.val (.int (0 : Int32)), .val (.int (31 : Int32)), .val (.int (34 : Int32))] [(.ref ga), (.int (34 : Int32)), (.int (31 : Int32)), (.int (0 : Int32))])) t ∧ _
    obtain ⟨_, _, ⟨T5, L5, k5, n5⟩, -, X5, ⟨Lc5, hQ5, l5, y5, z5⟩, st5⟩ := Jvm.LawKit.callS X4 hx (y := (⟨"jdk/internal/util/Preconditions", "checkFromIndexSize", "(IIILjava/util/function/BiFunction;)I"⟩ : MethodName)) hown (mvT hZ w_250) (mvT hZ w_251) (mvT hZ w_249) (mvT hZ w_252) (by decide) (backOf (W := 0) (rmCfsR l Z a0 hw [] ga h0 n0 Z0 OLD) hZ w_252 w_249 (by decide) (by decide)) (g := (mkF m 6 #[.val (.int (0 : Int32)), .val (.int (31 : Int32)), .val (.int (34 : Int32))] [(.ref ga), (.int (34 : Int32)), (.int (31 : Int32)), (.int (0 : Int32))])) rfl (by rw [hml]; rfl) (argsL := [(.int (0 : Int32)), (.int (31 : Int32)), (.int (34 : Int32)), (.ref ga)]) (rest := []) (lenOf pd__28IIILjava_2futil_2ffunction_2fBiFunction_3b_29I rfl) rfl (by show 2 * 0 + _ ≤ _; exact Nat.le_of_eq rfl) (hb hby d48_6) (fun _ _ => ⟨rfl, e4, (by decide : 0 + 0 ≤ _), (by decide : 0 + 0 ≤ _)⟩)
    dsimp only [Pt.U, Pt.locs, Pt.cells, Pt.slots] at X5 l5 y5 z5 st5 hQ5
    rw [l5, y5, z5] at X5
    obtain ⟨rfl, Nq5, e5⟩ := hQ5
    have N5 := Fr.app N0 Nq5
    refine own_go st5 ?_
    show ∃ t o, Steps p.tables e below (T5.setTop (mkF m 9 #[.val (.int (0 : Int32)), .val (.int (31 : Int32)), .val (.int (34 : Int32))] [(.int (0 : Int32))])) t ∧ _
    obtain ⟨fs, hr, hrun, hended, hW, hsame⟩ := X5.leave (v := some (.int (0 : Int32))) (fun h => by rw [Bd.returns] at h; cases h)
    refine ⟨_, _, ?_, hrun, hended, _, _, rfl, ?_, ⟨_, rfl⟩, hW, hsame.mono (by decide) (by decide)⟩
    · exact retI X5 hx Bd.returns (hb hby d48_9) hr
    · show Q_rmSbo Z _ h0 n0 _ T5.heap _
      rw [e5]
      exact ⟨rfl, N5, rfl⟩
theorem ef_rmUlen (m : MethodId) (x0 : Nat) : entryFrame m #[(.ref x0)] 1 = mkF m 0 #[.val (.ref x0)] [] := by first | (simp [entryFrame, mkF, argsToLocals, Value.category]; done) | rfl
theorem d47_0 : decode jdk_52_method_6_code 0 = .ok (.aload_n 0, 1) := by decide +kernel
theorem d47_1 : decode jdk_52_method_6_code 1 = .ok (.arraylength, 1) := by decide +kernel
theorem d47_2 : decode jdk_52_method_6_code 2 = .ok (.iconst 1, 1) := by decide +kernel
theorem d47_3 : decode jdk_52_method_6_code 3 = .ok (.ishr, 1) := by decide +kernel
theorem d47_4 : decode jdk_52_method_6_code 4 = .ok (.ireturn, 1) := by decide +kernel
def Q_rmUlen (Z : State) (nb : Nat) (kn : ClassId) (us : List Value) (h0 : Heap) (n0 : Nat) (v : Option Value) (h : Heap) (L : List Loc) : Prop := v = some (.int (34 : Int32)) ∧ Fr n0 L ∧ h = h0
set_option maxRecDepth 65536 in
set_option maxHeartbeats 40000000 in
theorem rmUlen (l : Launch) (Z : State) (a0 : Array Value) (hw : ∀ d ∈ tables_1, d.before a0 Z = true) (ws : List Jvm.Cond) (nb : Nat) (kn : ClassId) (us : List Value) (h0 : Heap) (n0 : Nat) (Z0 : n0 ≤ h0.size) (P1 : Arv Z h0 nb kn .byte (68 : Int32) us (.int (0 : Int32))) (OLD : Old Z n0 h0) :
    MetFree l (⟨"java/lang/StringUTF16", "length", "([B)I"⟩ : MethodName) (head1 (Jvm.Cond.code (⟨"java/lang/StringUTF16", "length", "([B)I"⟩ : MethodName) jdk_52_method_6_code 1 (some .int) :: ws) ({ frames := 0, cells := 0, slots := 0, locals := 0 } : Room)) (fun a U => a = #[(.ref nb)] ∧ Z.Warmed39 U.vm ∧ U.heap = h0) (fun _ _ _ _ _ => True) (fun _ U o U' => ∃ v L, o = .returned v ∧ Q_rmUlen Z nb kn us h0 n0 v U'.heap L ∧ FrameEnd U o U' L ({ frames := 0, cells := 0, slots := 0, locals := 0 } : Room).cells ({ frames := 0, cells := 0, slots := 0, locals := 0 } : Room).slots) := by
  refine MetFree.of_bodySF (plainFor_of_name pn_java_lang_StringUTF16) hisR ?_
  intro p e s m args below meth c s₁ Bd hml0 hP hK
  obtain ⟨rfl, hZ, hh⟩ := hP
  have hx := Bd.exec
  have hby := Bd.bytes
  have hml : c.maxLocals = 1 := hml0
  have hown : s.vm.findClass "java/lang/StringUTF16" = some m.cls := findClass_of_methodNamed Bd.named
  have hnm := (name_of_methodNamed Bd.named Bd.method).1
  have X0 : Stand p l e ({ frames := 0, cells := 0, slots := 0, locals := 0 } : Room) s m #[(.ref nb)] below meth c s₁ [] 0 0 := Stand.of_body Bd
  have e0 : s₁.heap = h0 := by rw [← hh, Bd.state]; rfl
  have N0 := Fr.nil n0
  have pre0 : ∀ t, Steps p.tables e below (s₁.setTop (mkF m 0 #[.val (.ref nb)] [])) t → Steps p.tables e below (s₁.setTop (entryFrame m #[(.ref nb)] 1)) t := fun t k => castTop (ef_rmUlen m nb) k
  have oz := OLD.1
  have lt_nb : nb < h0.size := P1.lt
  refine own_go (B := s₁.setTop (mkF m 0 #[.val (.ref nb)] [])) pre0 ?_
  show ∃ t o, Steps p.tables e below (s₁.setTop (mkF m 0 #[.val (.ref nb)] [])) t ∧ _
  refine own_go (fun _ => XS.aloadN X0.here hx rfl (hb hby d47_0) rfl rfl) ?_
  obtain ⟨cl2, Ar2, q2, S2, N2, H2, G2⟩ := id P1
  have ln2 : cl2.slots.size.toInt32 = (68 : Int32) := len_of S2 N2
  have al2 := X0.arraylength hx (by rw [e0]; exact Ar2.1) (State.isArrayOf_alike hZ.alike Ar2.2.1) (g := (mkF m 1 #[.val (.ref nb)] [(.ref nb)])) rfl rfl (hb hby d47_1)
  rw [ln2] at al2
  refine own_go al2 ?_
  refine own_go (fun _ => XS.iconst X0.here hx rfl (hb hby d47_2)) ?_
  refine own_go (fun _ => XS.ishr X0.here hx rfl (hb hby d47_3) rfl) ?_
  show ∃ t o, Steps p.tables e below (s₁.setTop (mkF m 4 #[.val (.ref nb)] [(.int (34 : Int32))])) t ∧ _
  obtain ⟨fs, hr, hrun, hended, hW, hsame⟩ := X0.leave (v := some (.int (34 : Int32))) (fun h => by rw [Bd.returns] at h; cases h)
  refine ⟨_, _, ?_, hrun, hended, _, _, rfl, ?_, ⟨_, rfl⟩, hW, hsame.mono (by decide) (by decide)⟩
  · exact retI X0 hx Bd.returns (hb hby d47_4) hr
  · show Q_rmUlen Z _ _ _ h0 n0 _ s₁.heap _
    rw [e0]
    exact ⟨rfl, N0, rfl⟩
theorem ef_rmCbo (m : MethodId) (x0 : Int32) (x1 : Int32) (x2 : Nat) : entryFrame m #[(.int x0), (.int x1), (.ref x2)] 3 = mkF m 0 #[.val (.int x0), .val (.int x1), .val (.ref x2)] [] := by first | (simp [entryFrame, mkF, argsToLocals, Value.category]; done) | rfl
theorem d46_0 : decode jdk_52_method_94_code 0 = .ok (.iload_n 0, 1) := by decide +kernel
theorem d46_1 : decode jdk_52_method_94_code 1 = .ok (.iload_n 1, 1) := by decide +kernel
theorem d46_2 : decode jdk_52_method_94_code 2 = .ok (.aload_n 2, 1) := by decide +kernel
theorem d46_3 : decode jdk_52_method_94_code 3 = .ok (.invokestatic 48, 3) := by decide +kernel
theorem pd__28_5bB_29I : parseMethodDescriptor "([B)I" = some ⟨[(.array .byte)], some .int⟩ := by decide +kernel
theorem d46_6 : decode jdk_52_method_94_code 6 = .ok (.invokestatic 419, 3) := by decide +kernel
theorem d46_9 : decode jdk_52_method_94_code 9 = .ok (.pop, 1) := by decide +kernel
theorem d46_10 : decode jdk_52_method_94_code 10 = .ok (.return_, 1) := by decide +kernel
def Q_rmCbo (Z : State) (nb : Nat) (kn : ClassId) (us : List Value) (gv : Value) (h0 : Heap) (n0 : Nat) (v : Option Value) (h : Heap) (L : List Loc) : Prop := v = none ∧ Fr n0 L ∧ h = h0
set_option maxRecDepth 65536 in
set_option maxHeartbeats 40000000 in
theorem rmCbo (l : Launch) (Z : State) (a0 : Array Value) (hw : ∀ d ∈ tables_1, d.before a0 Z = true) (ws : List Jvm.Cond) (nb : Nat) (kn : ClassId) (us : List Value) (gv : Value) (h0 : Heap) (n0 : Nat) (Z0 : n0 ≤ h0.size) (P1 : Arv Z h0 nb kn .byte (68 : Int32) us (.int (0 : Int32))) (OLD : Old Z n0 h0) (P2 : Sta Z Z.heap "jdk/internal/util/Preconditions" "SIOOBE_FORMATTER" "Ljava/util/function/BiFunction;" gv) (hgv : gv.isRef = true) :
    MetFree l (⟨"java/lang/StringUTF16", "checkBoundsOffCount", "(II[B)V"⟩ : MethodName) (head1 (Jvm.Cond.code (⟨"java/lang/StringUTF16", "checkBoundsOffCount", "(II[B)V"⟩ : MethodName) jdk_52_method_94_code 3 none :: ws) ({ frames := 2, cells := 0, slots := 0, locals := 29 } : Room)) (fun a U => a = #[(.int (0 : Int32)), (.int (31 : Int32)), (.ref nb)] ∧ Z.Warmed39 U.vm ∧ U.heap = h0) (fun _ _ _ _ _ => True) (fun _ U o U' => ∃ v L, o = .returned v ∧ Q_rmCbo Z nb kn us gv h0 n0 v U'.heap L ∧ FrameEnd U o U' L ({ frames := 2, cells := 0, slots := 0, locals := 29 } : Room).cells ({ frames := 2, cells := 0, slots := 0, locals := 29 } : Room).slots) := by
  refine MetFree.of_bodySF (plainFor_of_name pn_java_lang_StringUTF16) hisR ?_
  intro p e s m args below meth c s₁ Bd hml0 hP hK
  obtain ⟨rfl, hZ, hh⟩ := hP
  have hx := Bd.exec
  have hby := Bd.bytes
  have hml : c.maxLocals = 3 := hml0
  have hown : s.vm.findClass "java/lang/StringUTF16" = some m.cls := findClass_of_methodNamed Bd.named
  have hnm := (name_of_methodNamed Bd.named Bd.method).1
  have X0 : Stand p l e ({ frames := 2, cells := 0, slots := 0, locals := 29 } : Room) s m #[(.int (0 : Int32)), (.int (31 : Int32)), (.ref nb)] below meth c s₁ [] 0 0 := Stand.of_body Bd
  have e0 : s₁.heap = h0 := by rw [← hh, Bd.state]; rfl
  have N0 := Fr.nil n0
  have pre0 : ∀ t, Steps p.tables e below (s₁.setTop (mkF m 0 #[.val (.int (0 : Int32)), .val (.int (31 : Int32)), .val (.ref nb)] [])) t → Steps p.tables e below (s₁.setTop (entryFrame m #[(.int (0 : Int32)), (.int (31 : Int32)), (.ref nb)] 3)) t := fun t k => castTop (ef_rmCbo m (0 : Int32) (31 : Int32) nb) k
  have w_17 := hw _ (List.mem_of_getElem? (i := 17) rfl)
  have w_2 := hw _ (List.mem_of_getElem? (i := 2) rfl)
  have w_244 := hw _ (List.mem_of_getElem? (i := 244) rfl)
  have w_247 := hw _ (List.mem_of_getElem? (i := 247) rfl)
  have oz := OLD.1
  have lt_nb : nb < h0.size := P1.lt
  refine own_go (B := s₁.setTop (mkF m 0 #[.val (.int (0 : Int32)), .val (.int (31 : Int32)), .val (.ref nb)] [])) pre0 ?_
  show ∃ t o, Steps p.tables e below (s₁.setTop (mkF m 0 #[.val (.int (0 : Int32)), .val (.int (31 : Int32)), .val (.ref nb)] [])) t ∧ _
  refine own_go (fun _ => XS.iloadN X0.here hx rfl (hb hby d46_0) rfl) ?_
  refine own_go (fun _ => XS.iloadN X0.here hx rfl (hb hby d46_1) rfl) ?_
  refine own_go (fun _ => XS.aloadN X0.here hx rfl (hb hby d46_2) rfl rfl) ?_
  show ∃ t o, Steps p.tables e below (s₁.setTop (mkF m 3 #[.val (.int (0 : Int32)), .val (.int (31 : Int32)), .val (.ref nb)] [(.ref nb), (.int (31 : Int32)), (.int (0 : Int32))])) t ∧ _
  obtain ⟨_, _, ⟨T3, L3, k3, n3⟩, -, X3, ⟨Lc3, hQ3, l3, y3, z3⟩, st3⟩ := Jvm.LawKit.callS X0 hx (y := (⟨"java/lang/StringUTF16", "length", "([B)I"⟩ : MethodName)) hown (mvT hZ (hw _ (List.mem_of_getElem? (i := 242) rfl))) (mvT hZ (hw _ (List.mem_of_getElem? (i := 243) rfl))) (mvT hZ w_17) (mvT hZ w_244) (by decide) (backOf (W := 2) (rmUlen l Z a0 hw [] nb kn us h0 n0 Z0 P1 OLD) hZ w_244 w_17 (by decide) (by decide)) (g := (mkF m 3 #[.val (.int (0 : Int32)), .val (.int (31 : Int32)), .val (.ref nb)] [(.ref nb), (.int (31 : Int32)), (.int (0 : Int32))])) rfl (by rw [hml]; rfl) (argsL := [(.ref nb)]) (rest := [(.int (31 : Int32)), (.int (0 : Int32))]) (lenOf pd__28_5bB_29I rfl) rfl (by show 2 * 0 + _ ≤ _; exact Nat.le_of_eq rfl) (hb hby d46_3) (fun _ _ => ⟨rfl, e0, (by decide : 0 + 0 ≤ _), (by decide : 0 + 0 ≤ _)⟩)
  dsimp only [Pt.U, Pt.locs, Pt.cells, Pt.slots] at X3 l3 y3 z3 st3 hQ3
  rw [l3, y3, z3] at X3
  obtain ⟨rfl, Nq3, e3⟩ := hQ3
  have N3 := Fr.app N0 Nq3
  refine own_go st3 ?_
  show ∃ t o, Steps p.tables e below (T3.setTop (mkF m 6 #[.val (.int (0 : Int32)), .val (.int (31 : Int32)), .val (.ref nb)] [(.int (34 : Int32)), (.int (31 : Int32)), (.int (0 : Int32))])) t ∧ _
  obtain ⟨_, _, ⟨T4, L4, k4, n4⟩, -, X4, ⟨Lc4, hQ4, l4, y4, z4⟩, st4⟩ := Jvm.LawKit.callS X3 hx (y := (⟨"java/lang/String", "checkBoundsOffCount", "(III)I"⟩ : MethodName)) hown (mvT hZ (hw _ (List.mem_of_getElem? (i := 245) rfl))) (mvT hZ (hw _ (List.mem_of_getElem? (i := 246) rfl))) (mvT hZ w_2) (mvT hZ w_247) (by decide) (backOf (W := 0) (rmSbo l Z a0 hw [] gv h0 n0 Z0 OLD P2 hgv) hZ w_247 w_2 (by decide) (by decide)) (g := (mkF m 6 #[.val (.int (0 : Int32)), .val (.int (31 : Int32)), .val (.ref nb)] [(.int (34 : Int32)), (.int (31 : Int32)), (.int (0 : Int32))])) rfl (by rw [hml]; rfl) (argsL := [(.int (0 : Int32)), (.int (31 : Int32)), (.int (34 : Int32))]) (rest := []) (lenOf pd__28III_29I rfl) rfl (by show 2 * 0 + _ ≤ _; exact Nat.le_of_eq rfl) (hb hby d46_6) (fun _ _ => ⟨rfl, e3, (by decide : 0 + 0 ≤ _), (by decide : 0 + 0 ≤ _)⟩)
  dsimp only [Pt.U, Pt.locs, Pt.cells, Pt.slots] at X4 l4 y4 z4 st4 hQ4
  rw [l4, y4, z4] at X4
  obtain ⟨rfl, Nq4, e4⟩ := hQ4
  have N4 := Fr.app N3 Nq4
  refine own_go st4 ?_
  refine own_go (fun _ => XS.pop X4.here hx rfl (hb hby d46_9) rfl rfl) ?_
  show ∃ t o, Steps p.tables e below (T4.setTop (mkF m 10 #[.val (.int (0 : Int32)), .val (.int (31 : Int32)), .val (.ref nb)] [])) t ∧ _
  obtain ⟨fs, hr, hrun, hended, hW, hsame⟩ := X4.leave (v := none) (fun _ => rfl)
  refine ⟨_, _, ?_, hrun, hended, _, _, rfl, ?_, ⟨_, rfl⟩, hW, hsame.mono (by decide) (by decide)⟩
  · exact X4.returnOut hx Bd.returns (hb hby d46_10) hr
  · show Q_rmCbo Z _ _ _ _ h0 n0 _ T4.heap _
    rw [e4]
    exact ⟨rfl, N4, rfl⟩
theorem ef_rmUinf (m : MethodId) (x0 : Nat) (x1 : Int32) (x2 : Nat) (x3 : Int32) (x4 : Int32) : entryFrame m #[(.ref x0), (.int x1), (.ref x2), (.int x3), (.int x4)] 6 = mkF m 0 #[.val (.ref x0), .val (.int x1), .val (.ref x2), .val (.int x3), .val (.int x4), .unset] [] := by first | (simp [entryFrame, mkF, argsToLocals, Value.category]; done) | rfl
theorem d45_0 : decode jdk_52_method_86_code 0 = .ok (.iload_n 3, 1) := by decide +kernel
theorem d45_1 : decode jdk_52_method_86_code 1 = .ok (.iload 4, 2) := by decide +kernel
theorem d45_3 : decode jdk_52_method_86_code 3 = .ok (.aload_n 2, 1) := by decide +kernel
theorem d45_4 : decode jdk_52_method_86_code 4 = .ok (.invokestatic 173, 3) := by decide +kernel
theorem pd__28II_5bB_29V : parseMethodDescriptor "(II[B)V" = some ⟨[.int, .int, (.array .byte)], none⟩ := by decide +kernel
theorem d45_10 : decode jdk_52_method_86_code 10 = .ok (.iload 5, 2) := by decide +kernel
theorem d45_12 : decode jdk_52_method_86_code 12 = .ok (.iload 4, 2) := by decide +kernel
theorem d45_14 : decode jdk_52_method_86_code 14 = .ok (.if_icmp .ge 27, 3) := by decide +kernel
theorem d45_17 : decode jdk_52_method_86_code 17 = .ok (.aload_n 2, 1) := by decide +kernel
theorem d45_18 : decode jdk_52_method_86_code 18 = .ok (.iload_n 3, 1) := by decide +kernel
theorem d45_19 : decode jdk_52_method_86_code 19 = .ok (.iinc 3 1, 3) := by decide +kernel
theorem d45_22 : decode jdk_52_method_86_code 22 = .ok (.aload_n 0, 1) := by decide +kernel
theorem d45_23 : decode jdk_52_method_86_code 23 = .ok (.iload_n 1, 1) := by decide +kernel
theorem d45_24 : decode jdk_52_method_86_code 24 = .ok (.iinc 1 1, 3) := by decide +kernel
theorem d45_27 : decode jdk_52_method_86_code 27 = .ok (.baload, 1) := by decide +kernel
theorem d45_28 : decode jdk_52_method_86_code 28 = .ok (.sipush 255, 3) := by decide +kernel
theorem d45_31 : decode jdk_52_method_86_code 31 = .ok (.iand, 1) := by decide +kernel
theorem d45_32 : decode jdk_52_method_86_code 32 = .ok (.invokestatic 111, 3) := by decide +kernel
theorem d45_35 : decode jdk_52_method_86_code 35 = .ok (.iinc 5 1, 3) := by decide +kernel
theorem d45_38 : decode jdk_52_method_86_code 38 = .ok (.goto (-28), 3) := by decide +kernel
theorem d45_41 : decode jdk_52_method_86_code 41 = .ok (.return_, 1) := by decide +kernel
theorem d45_7 : decode jdk_52_method_86_code 7 = .ok (.iconst 0, 1) := by decide +kernel
theorem d45_8 : decode jdk_52_method_86_code 8 = .ok (.istore 5, 2) := by decide +kernel
def Q_rmUinf (Z : State) (sa : Nat) (ka : ClassId) (cs : List Int32) (nb : Nat) (kn : ClassId) (gv : Value) (h0 : Heap) (n0 : Nat) (v : Option Value) (h : Heap) (L : List Loc) : Prop := v = none ∧ Fr n0 L ∧ Keep h0 h [nb] ∧ Arv Z h nb kn .byte (68 : Int32) (own_u8 cs) (.int (0 : Int32))
set_option maxRecDepth 65536 in
set_option maxHeartbeats 40000000 in
theorem rmUinf (l : Launch) (Z : State) (a0 : Array Value) (hw : ∀ d ∈ tables_1, d.before a0 Z = true) (ws : List Jvm.Cond) (sa : Nat) (ka : ClassId) (cs : List Int32) (nb : Nat) (kn : ClassId) (gv : Value) (h0 : Heap) (n0 : Nat) (Z0 : n0 ≤ h0.size) (P1 : Arv Z h0 sa ka .byte (34 : Int32) (own_lb cs) (.int (0 : Int32))) (P2 : Arv Z h0 nb kn .byte (68 : Int32) [] (.int (0 : Int32))) (OLD : Old Z n0 h0) (P3 : Sta Z Z.heap "java/lang/StringUTF16" "$assertionsDisabled" "Z" (.int (1 : Int32))) (P4 : Sta Z Z.heap "java/lang/StringUTF16" "HI_BYTE_SHIFT" "I" (.int (0 : Int32))) (P5 : Sta Z Z.heap "java/lang/StringUTF16" "LO_BYTE_SHIFT" "I" (.int (8 : Int32))) (P6 : Sta Z Z.heap "jdk/internal/util/Preconditions" "SIOOBE_FORMATTER" "Ljava/util/function/BiFunction;" gv) (hgv : gv.isRef = true) (fc : own_fit (own_cv cs) (31 : Int32)) (hlat : own_lat cs) (h16 : ∀ x ∈ cs, own_c16 x) (gnb : n0 ≤ nb) (hne : sa ≠ nb) :
    MetFree l (⟨"java/lang/StringUTF16", "inflate", "([BI[BII)V"⟩ : MethodName) (head1 (Jvm.Cond.code (⟨"java/lang/StringUTF16", "inflate", "([BI[BII)V"⟩ : MethodName) jdk_52_method_86_code 6 none :: ws) ({ frames := 3, cells := 0, slots := 0, locals := 43 } : Room)) (fun a U => a = #[(.ref sa), (.int (0 : Int32)), (.ref nb), (.int (0 : Int32)), (.int (31 : Int32))] ∧ Z.Warmed39 U.vm ∧ U.heap = h0) (fun _ _ _ _ _ => True) (fun _ U o U' => ∃ v L, o = .returned v ∧ Q_rmUinf Z sa ka cs nb kn gv h0 n0 v U'.heap L ∧ FrameEnd U o U' L ({ frames := 3, cells := 0, slots := 0, locals := 43 } : Room).cells ({ frames := 3, cells := 0, slots := 0, locals := 43 } : Room).slots) := by
  refine MetFree.of_bodySF (plainFor_of_name pn_java_lang_StringUTF16) hisR ?_
  intro p e s m args below meth c s₁ Bd hml0 hP hK
  obtain ⟨rfl, hZ, hh⟩ := hP
  have hx := Bd.exec
  have hby := Bd.bytes
  have hml : c.maxLocals = 6 := hml0
  have hown : s.vm.findClass "java/lang/StringUTF16" = some m.cls := findClass_of_methodNamed Bd.named
  have hnm := (name_of_methodNamed Bd.named Bd.method).1
  have X0 : Stand p l e ({ frames := 3, cells := 0, slots := 0, locals := 43 } : Room) s m #[(.ref sa), (.int (0 : Int32)), (.ref nb), (.int (0 : Int32)), (.int (31 : Int32))] below meth c s₁ [] 0 0 := Stand.of_body Bd
  have e0 : s₁.heap = h0 := by rw [← hh, Bd.state]; rfl
  have N0 := Fr.nil n0
  have pre0 : ∀ t, Steps p.tables e below (s₁.setTop (mkF m 0 #[.val (.ref sa), .val (.int (0 : Int32)), .val (.ref nb), .val (.int (0 : Int32)), .val (.int (31 : Int32)), .unset] [])) t → Steps p.tables e below (s₁.setTop (entryFrame m #[(.ref sa), (.int (0 : Int32)), (.ref nb), (.int (0 : Int32)), (.int (31 : Int32))] 6)) t := fun t k => castTop (ef_rmUinf m sa (0 : Int32) nb (0 : Int32) (31 : Int32)) k
  have w_17 := hw _ (List.mem_of_getElem? (i := 17) rfl)
  have w_219 := hw _ (List.mem_of_getElem? (i := 219) rfl)
  have w_241 := hw _ (List.mem_of_getElem? (i := 241) rfl)
  have oz := OLD.1
  have lt_nb : nb < h0.size := P2.lt
  have lt_sa : sa < h0.size := P1.lt
  refine own_go (B := s₁.setTop (mkF m 0 #[.val (.ref sa), .val (.int (0 : Int32)), .val (.ref nb), .val (.int (0 : Int32)), .val (.int (31 : Int32)), .unset] [])) pre0 ?_
  show ∃ t o, Steps p.tables e below (s₁.setTop (mkF m 0 #[.val (.ref sa), .val (.int (0 : Int32)), .val (.ref nb), .val (.int (0 : Int32)), .val (.int (31 : Int32)), .unset] [])) t ∧ _
  refine own_go (fun _ => XS.iloadN X0.here hx rfl (hb hby d45_0) rfl) ?_
  refine own_go (fun _ => XS.iload X0.here hx rfl (hb hby d45_1) rfl) ?_
  refine own_go (fun _ => XS.aloadN X0.here hx rfl (hb hby d45_3) rfl rfl) ?_
  show ∃ t o, Steps p.tables e below (s₁.setTop (mkF m 4 #[.val (.ref sa), .val (.int (0 : Int32)), .val (.ref nb), .val (.int (0 : Int32)), .val (.int (31 : Int32)), .unset] [(.ref nb), (.int (31 : Int32)), (.int (0 : Int32))])) t ∧ _
  obtain ⟨_, _, ⟨T7, L7, k7, n7⟩, -, X7, ⟨Lc7, hQ7, l7, y7, z7⟩, st7⟩ := Jvm.LawKit.callS X0 hx (y := (⟨"java/lang/StringUTF16", "checkBoundsOffCount", "(II[B)V"⟩ : MethodName)) hown (mvT hZ (hw _ (List.mem_of_getElem? (i := 239) rfl))) (mvT hZ (hw _ (List.mem_of_getElem? (i := 240) rfl))) (mvT hZ w_17) (mvT hZ w_241) (by decide) (backOf (W := 0) (rmCbo l Z a0 hw [] nb kn ([]) gv h0 n0 Z0 P2 OLD P6 hgv) hZ w_241 w_17 (by decide) (by decide)) (g := (mkF m 4 #[.val (.ref sa), .val (.int (0 : Int32)), .val (.ref nb), .val (.int (0 : Int32)), .val (.int (31 : Int32)), .unset] [(.ref nb), (.int (31 : Int32)), (.int (0 : Int32))])) rfl (by rw [hml]; rfl) (argsL := [(.int (0 : Int32)), (.int (31 : Int32)), (.ref nb)]) (rest := []) (lenOf pd__28II_5bB_29V rfl) rfl (by show 2 * 0 + _ ≤ _; exact Nat.le_of_eq rfl) (hb hby d45_4) (fun _ _ => ⟨rfl, e0, (by decide : 0 + 0 ≤ _), (by decide : 0 + 0 ≤ _)⟩)
  dsimp only [Pt.U, Pt.locs, Pt.cells, Pt.slots] at X7 l7 y7 z7 st7 hQ7
  rw [l7, y7, z7] at X7
  obtain ⟨rfl, Nq7, e7⟩ := hQ7
  have N7 := Fr.app N0 Nq7
  refine own_go st7 ?_
  refine own_nameP (fun P eP => ?_)
  have loop10 : ∀ (r : Nat) (ii : Int32) (Tl_10 : State) (hl_10 : Heap) (Ll_10 : List Loc) (Xl_10 : Stand p l e ({ frames := 3, cells := 0, slots := 0, locals := 43 } : Room) s m #[(.ref sa), (.int (0 : Int32)), (.ref nb), (.int (0 : Int32)), (.int (31 : Int32))] below meth c Tl_10 Ll_10 0 0) (el_10 : Tl_10.heap = hl_10) (Nl_10 : Fr n0 Ll_10) (Kl_10 : Keep h0 hl_10 [nb]) (OLDl_10 : Old Z n0 hl_10) (Fl_10_0 : Arv Z hl_10 sa ka .byte (34 : Int32) (own_lb cs) (.int (0 : Int32))) (Fl_10_1 : Arv Z hl_10 nb kn .byte (68 : Int32) (own_u8 (cs.take ii.toInt.toNat)) (.int (0 : Int32))) (hI : own_ci cs ii) (hr : (cs.length - ii.toInt.toNat) = r), ∃ t o, Steps p.tables e below (Tl_10.setTop (mkF m 10 #[.val (.ref sa), .val (.int ii), .val (.ref nb), .val (.int ii), .val (.int (31 : Int32)), .val (.int ii)] [])) t ∧ P t o := by
    intro r
    induction r using Nat.strongRecOn with
    | _ r ih10 =>
      intro ii Tl_10 hl_10 Ll_10 Xl_10 el_10 Nl_10 Kl_10 OLDl_10 Fl_10_0 Fl_10_1 hI hr
      have lel_10 : h0.size ≤ hl_10.size := Kl_10.1
      have ltl10_nb : nb < hl_10.size := Fl_10_1.lt
      have ltl10_sa : sa < hl_10.size := Fl_10_0.lt
      show ∃ t o, Steps p.tables e below (Tl_10.setTop (mkF m 10 #[.val (.ref sa), .val (.int ii), .val (.ref nb), .val (.int ii), .val (.int (31 : Int32)), .val (.int ii)] [])) t ∧ _
      refine own_go (fun _ => XS.iload Xl_10.here hx rfl (hb hby d45_10) rfl) ?_
      refine own_go (fun _ => XS.iload Xl_10.here hx rfl (hb hby d45_12) rfl) ?_
      show ∃ t o, Steps p.tables e below (Tl_10.setTop (mkF m 14 #[.val (.ref sa), .val (.int ii), .val (.ref nb), .val (.int ii), .val (.int (31 : Int32)), .val (.int ii)] [(.int (31 : Int32)), (.int ii)])) t ∧ _
      by_cases hc8 : ii < (31 : Int32)
      · refine own_go (fun _ => XS.icmpNo Xl_10.here hx rfl (hb hby d45_14) rfl (tlt hc8).2.1) ?_
        obtain ⟨xc, hat⟩ := own_at_of fc hI.1 hc8
        have hin := own_in34 (own_cin hI hc8)
        refine own_go (fun _ => XS.aloadN Xl_10.here hx rfl (hb hby d45_17) rfl rfl) ?_
        refine own_go (fun _ => XS.iloadN Xl_10.here hx rfl (hb hby d45_18) rfl) ?_
        refine own_go (fun _ => XS.iinc Xl_10.here hx rfl (hb hby d45_19) rfl (l' := #[.val (.ref sa), .val (.int ii), .val (.ref nb), .val (.int (ii + (1 : Int32))), .val (.int (31 : Int32)), .val (.int ii)]) rfl) ?_
        refine own_go (fun _ => XS.aloadN Xl_10.here hx rfl (hb hby d45_22) rfl rfl) ?_
        refine own_go (fun _ => XS.iloadN Xl_10.here hx rfl (hb hby d45_23) rfl) ?_
        refine own_go (fun _ => XS.iinc Xl_10.here hx rfl (hb hby d45_24) rfl (l' := #[.val (.ref sa), .val (.int (ii + (1 : Int32))), .val (.ref nb), .val (.int (ii + (1 : Int32))), .val (.int (31 : Int32)), .val (.int ii)]) rfl) ?_
        obtain ⟨cl9, Ar9, q9, S9, N9, H9, G9⟩ := id Fl_10_0
        have hin9 : ¬ (ii < 0 ∨ cl9.slots.size ≤ (ii).toNatClampNeg) := inb_of S9 hin
        have hat9 : cl9.slots[(ii).toNatClampNeg]? = some (.int (xc.toInt8.toInt32)) := Has.at H9 hin9 (own_lbat hat)
        refine own_go (fun _ => Xl_10.baloadBytes hx (j := ii) (v := (.int (xc.toInt8.toInt32))) (by rw [el_10]; exact Ar9.1) (State.isArrayOf_alike hZ.alike Ar9.2.1) Ar9.2.2 hin9 hat9 (g := (mkF m 27 #[.val (.ref sa), .val (.int (ii + (1 : Int32))), .val (.ref nb), .val (.int (ii + (1 : Int32))), .val (.int (31 : Int32)), .val (.int ii)] [(.int ii), (.ref sa), (.int ii), (.ref nb)])) rfl rfl (hb hby d45_27) _) ?_
        refine own_go (fun _ => XS.sipush Xl_10.here hx rfl (hb hby d45_28)) ?_
        refine own_go (fun _ => XS.iand Xl_10.here hx rfl (hb hby d45_31) rfl) ?_
        show ∃ t o, Steps p.tables e below (Tl_10.setTop (mkF m 32 #[.val (.ref sa), .val (.int (ii + (1 : Int32))), .val (.ref nb), .val (.int (ii + (1 : Int32))), .val (.int (31 : Int32)), .val (.int ii)] [(.int ((xc.toInt8.toInt32) &&& (255 : Int32))), (.int ii), (.ref nb)])) t ∧ _
        rw [own_b255 (h16 xc hat.mem) (hlat xc hat.mem)]
        show ∃ t o, Steps p.tables e below (Tl_10.setTop (mkF m 32 #[.val (.ref sa), .val (.int (ii + (1 : Int32))), .val (.ref nb), .val (.int (ii + (1 : Int32))), .val (.int (31 : Int32)), .val (.int ii)] [(.int xc), (.int ii), (.ref nb)])) t ∧ _
        have zl10 : n0 ≤ hl_10.size := by omega
        obtain ⟨_, _, ⟨T11, L11, k11, n11⟩, -, X11, ⟨Lc11, hQ11, l11, y11, z11⟩, st11⟩ := Jvm.LawKit.callS Xl_10 hx (y := (⟨"java/lang/StringUTF16", "putChar", "([BII)V"⟩ : MethodName)) hown (mvT hZ (hw _ (List.mem_of_getElem? (i := 217) rfl))) (mvT hZ (hw _ (List.mem_of_getElem? (i := 218) rfl))) (mvT hZ w_17) (mvT hZ w_219) (by decide) (backOf (W := 0) (rmPch l Z a0 hw [] nb kn (68 : Int32) ((own_u8 (cs.take ii.toInt.toNat))) ii xc hl_10 n0 zl10 Fl_10_1 OLDl_10 P3 P4 P5 (⟨hI.1, by have q := hI.2.1; have z := hI.2.2; omega⟩ : 0 ≤ ii.toInt ∧ ii.toInt ≤ 1000) (own_u8t hI : ((own_u8 (cs.take ii.toInt.toNat)).length : Int) = 2 * ii.toInt) (own_rm2 (nn := 34) hI (own_in34 (own_cin hI hc8)).2 rfl : ((own_u8 (cs.take ii.toInt.toNat)).length : Int) + 2 ≤ (68 : Int32).toInt) gnb) hZ w_219 w_17 (by decide) (by decide)) (g := (mkF m 32 #[.val (.ref sa), .val (.int (ii + (1 : Int32))), .val (.ref nb), .val (.int (ii + (1 : Int32))), .val (.int (31 : Int32)), .val (.int ii)] [(.int xc), (.int ii), (.ref nb)])) rfl (by rw [hml]; rfl) (argsL := [(.ref nb), (.int ii), (.int xc)]) (rest := []) (lenOf pd__28_5bBII_29V rfl) rfl (by show 2 * 0 + _ ≤ _; exact Nat.le_of_eq rfl) (hb hby d45_32) (fun _ _ => ⟨rfl, el_10, (by decide : 0 + 0 ≤ _), (by decide : 0 + 0 ≤ _)⟩)
        dsimp only [Pt.U, Pt.locs, Pt.cells, Pt.slots] at X11 l11 y11 z11 st11 hQ11
        rw [l11, y11, z11] at X11
        obtain ⟨rfl, Nq11, Kp11, G11_0⟩ := hQ11
        have N11 := Fr.app Nl_10 Nq11
        refine own_go st11 ?_
        have le_11 : hl_10.size ≤ T11.heap.size := Kp11.1
        have K11 : Keep h0 T11.heap [nb] := Keep.trans Kl_10 Kp11 (allS (Or.inl (List.mem_of_getElem? (i := 0) rfl)) all0)
        have Vu : Arv Z T11.heap nb kn .byte (68 : Int32) (own_u8 (cs.take (ii + (1 : Int32)).toInt.toNat)) (.int (0 : Int32)) := by rw [own_tk hat (own_cilt hI), own_u8a]; exact G11_0
        refine own_go (fun _ => XS.iinc X11.here hx rfl (hb hby d45_35) rfl (l' := #[.val (.ref sa), .val (.int (ii + (1 : Int32))), .val (.ref nb), .val (.int (ii + (1 : Int32))), .val (.int (31 : Int32)), .val (.int (ii + (1 : Int32)))]) rfl) ?_
        refine own_go (fun _ => XS.goto X11.here hx rfl (pc0 := 38) (pc' := 10) rfl (hb hby d45_38) (by decide) (by decide)) ?_
        have F12 := (Old.keep OLDl_10 Kp11 (allS gnb all0))
        have F13 := (Arv.keep Fl_10_0 Kp11 (ninS hne nin0))
        show ∃ t o, Steps p.tables e below (T11.setTop (mkF m 10 #[.val (.ref sa), .val (.int (ii + (1 : Int32))), .val (.ref nb), .val (.int (ii + (1 : Int32))), .val (.int (31 : Int32)), .val (.int (ii + (1 : Int32)))] [])) t ∧ _
        exact ih10 _ (by have q := own_cim hI hat; omega) (ii + (1 : Int32)) _ _ _ X11 rfl N11 K11 F12 F13 Vu (own_ciS hI hat) rfl
      · refine own_go (fun _ => XS.icmpYes Xl_10.here hx rfl (pc0 := 14) (pc' := 41) rfl (hb hby d45_14) rfl (flt hc8).2.1 (by decide) (by decide)) ?_
        have Vu : Arv Z hl_10 nb kn .byte (68 : Int32) (own_u8 cs) (.int (0 : Int32)) := by have q := Fl_10_1; rw [own_ciE fc hI hc8] at q; exact q
        show ∃ t o, Steps p.tables e below (Tl_10.setTop (mkF m 41 #[.val (.ref sa), .val (.int ii), .val (.ref nb), .val (.int ii), .val (.int (31 : Int32)), .val (.int ii)] [])) t ∧ _
        subst eP
        obtain ⟨fs, hr, hrun, hended, hW, hsame⟩ := Xl_10.leave (v := none) (fun _ => rfl)
        refine ⟨_, _, ?_, hrun, hended, _, _, rfl, ?_, ⟨_, rfl⟩, hW, hsame.mono (by decide) (by decide)⟩
        · exact Xl_10.returnOut hx Bd.returns (hb hby d45_41) hr
        · show Q_rmUinf Z _ _ _ _ _ _ h0 n0 _ Tl_10.heap _
          rw [el_10]
          exact ⟨rfl, Nl_10, Kl_10, Vu⟩
  refine own_go (fun _ => XS.iconst X7.here hx rfl (hb hby d45_7)) ?_
  refine own_go (fun _ => XS.istore X7.here hx rfl (hb hby d45_8) rfl (l' := #[.val (.ref sa), .val (.int (0 : Int32)), .val (.ref nb), .val (.int (0 : Int32)), .val (.int (31 : Int32)), .val (.int (0 : Int32))]) rfl) ?_
  have V0 : Arv Z h0 nb kn .byte (68 : Int32) (own_u8 (cs.take (0 : Int32).toInt.toNat)) (.int (0 : Int32)) := P2
  show ∃ t o, Steps p.tables e below (T7.setTop (mkF m 10 #[.val (.ref sa), .val (.int (0 : Int32)), .val (.ref nb), .val (.int (0 : Int32)), .val (.int (31 : Int32)), .val (.int (0 : Int32))] [])) t ∧ _
  exact loop10 _ (0 : Int32) _ _ _ X7 e7 N7 (Keep.refl h0 [nb]) OLD P1 V0 (own_ci0 (own_l31 fc)) rfl
theorem ef_rmLinf (m : MethodId) (x0 : Nat) (x1 : Int32) (x2 : Nat) (x3 : Int32) (x4 : Int32) : entryFrame m #[(.ref x0), (.int x1), (.ref x2), (.int x3), (.int x4)] 5 = mkF m 0 #[.val (.ref x0), .val (.int x1), .val (.ref x2), .val (.int x3), .val (.int x4)] [] := by first | (simp [entryFrame, mkF, argsToLocals, Value.category]; done) | rfl
theorem d44_0 : decode jdk_43_method_50_code 0 = .ok (.aload_n 0, 1) := by decide +kernel
theorem d44_1 : decode jdk_43_method_50_code 1 = .ok (.iload_n 1, 1) := by decide +kernel
theorem d44_2 : decode jdk_43_method_50_code 2 = .ok (.aload_n 2, 1) := by decide +kernel
theorem d44_3 : decode jdk_43_method_50_code 3 = .ok (.iload_n 3, 1) := by decide +kernel
theorem d44_4 : decode jdk_43_method_50_code 4 = .ok (.iload 4, 2) := by decide +kernel
theorem d44_6 : decode jdk_43_method_50_code 6 = .ok (.invokestatic 240, 3) := by decide +kernel
theorem pd__28_5bBI_5bBII_29V : parseMethodDescriptor "([BI[BII)V" = some ⟨[(.array .byte), .int, (.array .byte), .int, .int], none⟩ := by decide +kernel
theorem d44_9 : decode jdk_43_method_50_code 9 = .ok (.return_, 1) := by decide +kernel
theorem pn_java_lang_StringLatin1 : plainName "java/lang/StringLatin1" = true := by first | (simp [plainName, overriddenIn]; done) | decide +kernel
def Q_rmLinf (Z : State) (sa : Nat) (ka : ClassId) (cs : List Int32) (nb : Nat) (kn : ClassId) (gv : Value) (h0 : Heap) (n0 : Nat) (v : Option Value) (h : Heap) (L : List Loc) : Prop := v = none ∧ Fr n0 L ∧ Keep h0 h [nb] ∧ Arv Z h nb kn .byte (68 : Int32) (own_u8 cs) (.int (0 : Int32))
set_option maxRecDepth 65536 in
set_option maxHeartbeats 40000000 in
theorem rmLinf (l : Launch) (Z : State) (a0 : Array Value) (hw : ∀ d ∈ tables_1, d.before a0 Z = true) (ws : List Jvm.Cond) (sa : Nat) (ka : ClassId) (cs : List Int32) (nb : Nat) (kn : ClassId) (gv : Value) (h0 : Heap) (n0 : Nat) (Z0 : n0 ≤ h0.size) (P1 : Arv Z h0 sa ka .byte (34 : Int32) (own_lb cs) (.int (0 : Int32))) (P2 : Arv Z h0 nb kn .byte (68 : Int32) [] (.int (0 : Int32))) (OLD : Old Z n0 h0) (P3 : Sta Z Z.heap "java/lang/StringUTF16" "$assertionsDisabled" "Z" (.int (1 : Int32))) (P4 : Sta Z Z.heap "java/lang/StringUTF16" "HI_BYTE_SHIFT" "I" (.int (0 : Int32))) (P5 : Sta Z Z.heap "java/lang/StringUTF16" "LO_BYTE_SHIFT" "I" (.int (8 : Int32))) (P6 : Sta Z Z.heap "jdk/internal/util/Preconditions" "SIOOBE_FORMATTER" "Ljava/util/function/BiFunction;" gv) (hgv : gv.isRef = true) (fc : own_fit (own_cv cs) (31 : Int32)) (hlat : own_lat cs) (h16 : ∀ x ∈ cs, own_c16 x) (gnb : n0 ≤ nb) (hne : sa ≠ nb) :
    MetFree l (⟨"java/lang/StringLatin1", "inflate", "([BI[BII)V"⟩ : MethodName) (head1 (Jvm.Cond.code (⟨"java/lang/StringLatin1", "inflate", "([BI[BII)V"⟩ : MethodName) jdk_43_method_50_code 5 none :: ws) ({ frames := 4, cells := 0, slots := 0, locals := 60 } : Room)) (fun a U => a = #[(.ref sa), (.int (0 : Int32)), (.ref nb), (.int (0 : Int32)), (.int (31 : Int32))] ∧ Z.Warmed39 U.vm ∧ U.heap = h0) (fun _ _ _ _ _ => True) (fun _ U o U' => ∃ v L, o = .returned v ∧ Q_rmLinf Z sa ka cs nb kn gv h0 n0 v U'.heap L ∧ FrameEnd U o U' L ({ frames := 4, cells := 0, slots := 0, locals := 60 } : Room).cells ({ frames := 4, cells := 0, slots := 0, locals := 60 } : Room).slots) := by
  refine MetFree.of_bodySF (plainFor_of_name pn_java_lang_StringLatin1) hisR ?_
  intro p e s m args below meth c s₁ Bd hml0 hP hK
  obtain ⟨rfl, hZ, hh⟩ := hP
  have hx := Bd.exec
  have hby := Bd.bytes
  have hml : c.maxLocals = 5 := hml0
  have hown : s.vm.findClass "java/lang/StringLatin1" = some m.cls := findClass_of_methodNamed Bd.named
  have hnm := (name_of_methodNamed Bd.named Bd.method).1
  have X0 : Stand p l e ({ frames := 4, cells := 0, slots := 0, locals := 60 } : Room) s m #[(.ref sa), (.int (0 : Int32)), (.ref nb), (.int (0 : Int32)), (.int (31 : Int32))] below meth c s₁ [] 0 0 := Stand.of_body Bd
  have e0 : s₁.heap = h0 := by rw [← hh, Bd.state]; rfl
  have N0 := Fr.nil n0
  have pre0 : ∀ t, Steps p.tables e below (s₁.setTop (mkF m 0 #[.val (.ref sa), .val (.int (0 : Int32)), .val (.ref nb), .val (.int (0 : Int32)), .val (.int (31 : Int32))] [])) t → Steps p.tables e below (s₁.setTop (entryFrame m #[(.ref sa), (.int (0 : Int32)), (.ref nb), (.int (0 : Int32)), (.int (31 : Int32))] 5)) t := fun t k => castTop (ef_rmLinf m sa (0 : Int32) nb (0 : Int32) (31 : Int32)) k
  have w_17 := hw _ (List.mem_of_getElem? (i := 17) rfl)
  have w_238 := hw _ (List.mem_of_getElem? (i := 238) rfl)
  have oz := OLD.1
  have lt_nb : nb < h0.size := P2.lt
  have lt_sa : sa < h0.size := P1.lt
  refine own_go (B := s₁.setTop (mkF m 0 #[.val (.ref sa), .val (.int (0 : Int32)), .val (.ref nb), .val (.int (0 : Int32)), .val (.int (31 : Int32))] [])) pre0 ?_
  show ∃ t o, Steps p.tables e below (s₁.setTop (mkF m 0 #[.val (.ref sa), .val (.int (0 : Int32)), .val (.ref nb), .val (.int (0 : Int32)), .val (.int (31 : Int32))] [])) t ∧ _
  refine own_go (fun _ => XS.aloadN X0.here hx rfl (hb hby d44_0) rfl rfl) ?_
  refine own_go (fun _ => XS.iloadN X0.here hx rfl (hb hby d44_1) rfl) ?_
  refine own_go (fun _ => XS.aloadN X0.here hx rfl (hb hby d44_2) rfl rfl) ?_
  refine own_go (fun _ => XS.iloadN X0.here hx rfl (hb hby d44_3) rfl) ?_
  refine own_go (fun _ => XS.iload X0.here hx rfl (hb hby d44_4) rfl) ?_
  show ∃ t o, Steps p.tables e below (s₁.setTop (mkF m 6 #[.val (.ref sa), .val (.int (0 : Int32)), .val (.ref nb), .val (.int (0 : Int32)), .val (.int (31 : Int32))] [(.int (31 : Int32)), (.int (0 : Int32)), (.ref nb), (.int (0 : Int32)), (.ref sa)])) t ∧ _
  obtain ⟨_, _, ⟨T7, L7, k7, n7⟩, -, X7, ⟨Lc7, hQ7, l7, y7, z7⟩, st7⟩ := Jvm.LawKit.callS X0 hx (y := (⟨"java/lang/StringUTF16", "inflate", "([BI[BII)V"⟩ : MethodName)) hown (mvT hZ (hw _ (List.mem_of_getElem? (i := 236) rfl))) (mvT hZ (hw _ (List.mem_of_getElem? (i := 237) rfl))) (mvT hZ w_17) (mvT hZ w_238) (by decide) (backOf (W := 0) (rmUinf l Z a0 hw [] sa ka cs nb kn gv h0 n0 Z0 P1 P2 OLD P3 P4 P5 P6 hgv fc hlat h16 gnb hne) hZ w_238 w_17 (by decide) (by decide)) (g := (mkF m 6 #[.val (.ref sa), .val (.int (0 : Int32)), .val (.ref nb), .val (.int (0 : Int32)), .val (.int (31 : Int32))] [(.int (31 : Int32)), (.int (0 : Int32)), (.ref nb), (.int (0 : Int32)), (.ref sa)])) rfl (by rw [hml]; rfl) (argsL := [(.ref sa), (.int (0 : Int32)), (.ref nb), (.int (0 : Int32)), (.int (31 : Int32))]) (rest := []) (lenOf pd__28_5bBI_5bBII_29V rfl) rfl (by show 2 * 0 + _ ≤ _; exact Nat.le_of_eq rfl) (hb hby d44_6) (fun _ _ => ⟨rfl, e0, (by decide : 0 + 0 ≤ _), (by decide : 0 + 0 ≤ _)⟩)
  dsimp only [Pt.U, Pt.locs, Pt.cells, Pt.slots] at X7 l7 y7 z7 st7 hQ7
  rw [l7, y7, z7] at X7
  obtain ⟨rfl, Nq7, Kp7, G7_0⟩ := hQ7
  have N7 := Fr.app N0 Nq7
  refine own_go st7 ?_
  have le_7 : h0.size ≤ T7.heap.size := Kp7.1
  have K7 : Keep h0 T7.heap [nb] := Keep.trans (Keep.refl h0 [nb]) Kp7 (allS (Or.inl (List.mem_of_getElem? (i := 0) rfl)) all0)
  show ∃ t o, Steps p.tables e below (T7.setTop (mkF m 9 #[.val (.ref sa), .val (.int (0 : Int32)), .val (.ref nb), .val (.int (0 : Int32)), .val (.int (31 : Int32))] [])) t ∧ _
  obtain ⟨fs, hr, hrun, hended, hW, hsame⟩ := X7.leave (v := none) (fun _ => rfl)
  refine ⟨_, _, ?_, hrun, hended, _, _, rfl, ?_, ⟨_, rfl⟩, hW, hsame.mono (by decide) (by decide)⟩
  · exact X7.returnOut hx Bd.returns (hb hby d44_9) hr
  · show Q_rmLinf Z _ _ _ _ _ _ h0 n0 _ T7.heap _
    exact ⟨rfl, N7, K7, G7_0⟩
theorem ef_rmIflt (m : MethodId) (x0 : Nat) : entryFrame m #[(.ref x0)] 2 = mkF m 0 #[.val (.ref x0), .unset] [] := by first | (simp [entryFrame, mkF, argsToLocals, Value.category]; done) | rfl
theorem d43_0 : decode jdk_68_method_11_code 0 = .ok (.aload_n 0, 1) := by decide +kernel
theorem d43_1 : decode jdk_68_method_11_code 1 = .ok (.invokevirtual 83, 3) := by decide +kernel
theorem d43_4 : decode jdk_68_method_11_code 4 = .ok (.ifCond .ne 4, 3) := by decide +kernel
theorem d43_8 : decode jdk_68_method_11_code 8 = .ok (.aload_n 0, 1) := by decide +kernel
theorem d43_9 : decode jdk_68_method_11_code 9 = .ok (.getfield 15, 3) := by decide +kernel
theorem d43_12 : decode jdk_68_method_11_code 12 = .ok (.arraylength, 1) := by decide +kernel
theorem d43_13 : decode jdk_68_method_11_code 13 = .ok (.invokestatic 26, 3) := by decide +kernel
theorem d43_16 : decode jdk_68_method_11_code 16 = .ok (.astore_n 1, 1) := by decide +kernel
theorem d43_17 : decode jdk_68_method_11_code 17 = .ok (.aload_n 0, 1) := by decide +kernel
theorem d43_18 : decode jdk_68_method_11_code 18 = .ok (.getfield 15, 3) := by decide +kernel
theorem d43_21 : decode jdk_68_method_11_code 21 = .ok (.iconst 0, 1) := by decide +kernel
theorem d43_22 : decode jdk_68_method_11_code 22 = .ok (.aload_n 1, 1) := by decide +kernel
theorem d43_23 : decode jdk_68_method_11_code 23 = .ok (.iconst 0, 1) := by decide +kernel
theorem d43_24 : decode jdk_68_method_11_code 24 = .ok (.aload_n 0, 1) := by decide +kernel
theorem d43_25 : decode jdk_68_method_11_code 25 = .ok (.getfield 79, 3) := by decide +kernel
theorem d43_28 : decode jdk_68_method_11_code 28 = .ok (.invokestatic 125, 3) := by decide +kernel
theorem d43_31 : decode jdk_68_method_11_code 31 = .ok (.aload_n 0, 1) := by decide +kernel
theorem d43_32 : decode jdk_68_method_11_code 32 = .ok (.aload_n 1, 1) := by decide +kernel
theorem d43_33 : decode jdk_68_method_11_code 33 = .ok (.putfield 15, 3) := by decide +kernel
theorem d43_36 : decode jdk_68_method_11_code 36 = .ok (.aload_n 0, 1) := by decide +kernel
theorem d43_37 : decode jdk_68_method_11_code 37 = .ok (.iconst 1, 1) := by decide +kernel
theorem d43_38 : decode jdk_68_method_11_code 38 = .ok (.putfield 22, 3) := by decide +kernel
theorem d43_41 : decode jdk_68_method_11_code 41 = .ok (.return_, 1) := by decide +kernel
def Q_rmIflt (Z : State) (sb : Nat) (vb : Nat) (kv : ClassId) (cs : List Int32) (zc : Int32) (gv : Value) (h0 : Heap) (n0 : Nat) (v : Option Value) (h : Heap) (L : List Loc) : Prop := ∃ (nb : Nat), ∃ (kn : ClassId), v = none ∧ Fr n0 L ∧ Keep h0 h [sb] ∧ Exa Z h sb "java/lang/StringBuilder" ∧ Fld Z h sb "java/lang/AbstractStringBuilder" "value" "[B" (.ref nb) ∧ Fld Z h sb "java/lang/AbstractStringBuilder" "coder" "B" (.int (1 : Int32)) ∧ Fld Z h sb "java/lang/AbstractStringBuilder" "count" "I" (.int (31 : Int32)) ∧ Exa Z h nb "[B" ∧ Arv Z h nb kn .byte (68 : Int32) (own_u8 cs) (.int (0 : Int32)) ∧ Fld Z h sb "java/lang/AbstractStringBuilder" "maybeLatin1" "Z" (.int (0 : Int32)) ∧ (h0.size ≤ nb)
set_option maxRecDepth 65536 in
set_option maxHeartbeats 40000000 in
theorem rmIflt (l : Launch) (Z : State) (a0 : Array Value) (hw : ∀ d ∈ tables_1, d.before a0 Z = true) (ws : List Jvm.Cond) (sb : Nat) (vb : Nat) (kv : ClassId) (cs : List Int32) (zc : Int32) (gv : Value) (h0 : Heap) (n0 : Nat) (Z0 : n0 ≤ h0.size) (P1 : Exa Z h0 sb "java/lang/StringBuilder") (P2 : Fld Z h0 sb "java/lang/AbstractStringBuilder" "value" "[B" (.ref vb)) (P3 : Fld Z h0 sb "java/lang/AbstractStringBuilder" "coder" "B" (.int (0 : Int32))) (P4 : Fld Z h0 sb "java/lang/AbstractStringBuilder" "count" "I" (.int (31 : Int32))) (P5 : Exa Z h0 vb "[B") (P6 : Arv Z h0 vb kv .byte (34 : Int32) (own_lb cs) (.int (0 : Int32))) (P7 : Fld Z h0 sb "java/lang/AbstractStringBuilder" "maybeLatin1" "Z" (.int (0 : Int32))) (OLD : Old Z n0 h0) (P8 : Sta Z Z.heap "java/lang/String" "COMPACT_STRINGS" "Z" (.int zc)) (P9 : Sta Z Z.heap "java/lang/StringUTF16" "$assertionsDisabled" "Z" (.int (1 : Int32))) (P10 : Sta Z Z.heap "java/lang/StringUTF16" "HI_BYTE_SHIFT" "I" (.int (0 : Int32))) (P11 : Sta Z Z.heap "java/lang/StringUTF16" "LO_BYTE_SHIFT" "I" (.int (8 : Int32))) (P12 : Sta Z Z.heap "jdk/internal/util/Preconditions" "SIOOBE_FORMATTER" "Ljava/util/function/BiFunction;" gv) (hzc : ¬ (zc = (0 : Int32))) (hgv : gv.isRef = true) (fc : own_fit (own_cv cs) (31 : Int32)) (hlat : own_lat cs) (h16 : ∀ x ∈ cs, own_c16 x) (gsb : n0 ≤ sb) (gvb : n0 ≤ vb) (hne : sb ≠ vb) :
    MetFree l (⟨"java/lang/AbstractStringBuilder", "inflate", "()V"⟩ : MethodName) (head1 (Jvm.Cond.code (⟨"java/lang/AbstractStringBuilder", "inflate", "()V"⟩ : MethodName) jdk_68_method_11_code 2 none :: ws) ({ frames := 5, cells := 1, slots := 68, locals := 76 } : Room)) (fun a U => a = #[(.ref sb)] ∧ Z.Warmed39 U.vm ∧ U.heap = h0) (fun _ _ _ _ _ => True) (fun _ U o U' => ∃ v L, o = .returned v ∧ Q_rmIflt Z sb vb kv cs zc gv h0 n0 v U'.heap L ∧ FrameEnd U o U' L ({ frames := 5, cells := 1, slots := 68, locals := 76 } : Room).cells ({ frames := 5, cells := 1, slots := 68, locals := 76 } : Room).slots) := by
  refine MetFree.of_bodySF (plainFor_of_name pn_java_lang_AbstractStringBuilder) hisR ?_
  intro p e s m args below meth c s₁ Bd hml0 hP hK
  obtain ⟨rfl, hZ, hh⟩ := hP
  have hx := Bd.exec
  have hby := Bd.bytes
  have hml : c.maxLocals = 2 := hml0
  have hown : s.vm.findClass "java/lang/AbstractStringBuilder" = some m.cls := findClass_of_methodNamed Bd.named
  have hnm := (name_of_methodNamed Bd.named Bd.method).1
  have X0 : Stand p l e ({ frames := 5, cells := 1, slots := 68, locals := 76 } : Room) s m #[(.ref sb)] below meth c s₁ [] 0 0 := Stand.of_body Bd
  have e0 : s₁.heap = h0 := by rw [← hh, Bd.state]; rfl
  have N0 := Fr.nil n0
  have pre0 : ∀ t, Steps p.tables e below (s₁.setTop (mkF m 0 #[.val (.ref sb), .unset] [])) t → Steps p.tables e below (s₁.setTop (entryFrame m #[(.ref sb)] 2)) t := fun t k => castTop (ef_rmIflt m sb) k
  have w_156 := hw _ (List.mem_of_getElem? (i := 156) rfl)
  have w_17 := hw _ (List.mem_of_getElem? (i := 17) rfl)
  have w_204 := hw _ (List.mem_of_getElem? (i := 204) rfl)
  have w_212 := hw _ (List.mem_of_getElem? (i := 212) rfl)
  have w_235 := hw _ (List.mem_of_getElem? (i := 235) rfl)
  have w_254 := hw _ (List.mem_of_getElem? (i := 254) rfl)
  have w_40 := hw _ (List.mem_of_getElem? (i := 40) rfl)
  have w_53 := hw _ (List.mem_of_getElem? (i := 53) rfl)
  have w_54 := hw _ (List.mem_of_getElem? (i := 54) rfl)
  have w_56 := hw _ (List.mem_of_getElem? (i := 56) rfl)
  have w_79 := hw _ (List.mem_of_getElem? (i := 79) rfl)
  have oz := OLD.1
  have lt_sb : sb < h0.size := P1.lt
  have lt_vb : vb < h0.size := P5.lt
  refine own_go (B := s₁.setTop (mkF m 0 #[.val (.ref sb), .unset] [])) pre0 ?_
  show ∃ t o, Steps p.tables e below (s₁.setTop (mkF m 0 #[.val (.ref sb), .unset] [])) t ∧ _
  refine own_go (fun _ => XS.aloadN X0.here hx rfl (hb hby d43_0) rfl rfl) ?_
  show ∃ t o, Steps p.tables e below (s₁.setTop (mkF m 1 #[.val (.ref sb), .unset] [(.ref sb)])) t ∧ _
  obtain ⟨cq13, kq13, q13a, q13b, q13c⟩ := isOf hZ e0 P1
  obtain ⟨_, _, ⟨T13, L13, k13, n13⟩, -, X13, ⟨Lc13, hQ13, l13, y13, z13⟩, st13⟩ := X0.virtualBack hx (y := (⟨"java/lang/AbstractStringBuilder", "isLatin1", "()Z"⟩ : MethodName)) (z := (⟨"java/lang/AbstractStringBuilder", "isLatin1", "()Z"⟩ : MethodName)) hown (mvT hZ (hw _ (List.mem_of_getElem? (i := 231) rfl))) (mvT hZ (hw _ (List.mem_of_getElem? (i := 154) rfl))) (notFace_of_selects (args := #[]) (mvT hZ w_156)) (mvT hZ w_156) (mvT hZ (hw _ (List.mem_of_getElem? (i := 155) rfl))) (by decide) (backOf (W := 0) (rmABL1 l Z a0 hw [] sb zc h0 n0 Z0 P3 OLD P8 hzc) hZ (hw _ (List.mem_of_getElem? (i := 157) rfl)) (hw _ (List.mem_of_getElem? (i := 49) rfl)) (by decide) (by decide)) q13a q13c (g := (mkF m 1 #[.val (.ref sb), .unset] [(.ref sb)])) rfl (by rw [hml]; rfl) (Steps.refl _) (argsL := []) (rest := []) (lenOf pd__28_29Z rfl) rfl (by show 2 * 0 + _ ≤ _; exact Nat.le_of_eq rfl) (hb hby d43_1) (fun _ _ => ⟨rfl, e0, (by decide : 0 + 0 ≤ _), (by decide : 0 + 0 ≤ _)⟩)
  dsimp only [Pt.U, Pt.locs, Pt.cells, Pt.slots] at X13 l13 y13 z13 st13 hQ13
  rw [l13, y13, z13] at X13
  obtain ⟨rfl, Nq13, e13⟩ := hQ13
  have N13 := Fr.app N0 Nq13
  refine own_goT st13 ?_
  show ∃ t o, Steps p.tables e below (T13.setTop (mkF m 4 #[.val (.ref sb), .unset] [(.int (1 : Int32))])) t ∧ _
  refine own_go (fun _ => XS.ifYes X13.here hx rfl (pc0 := 4) (pc' := 8) rfl (hb hby d43_4) rfl ((if0 _ _).trans (feq (by decide : ¬ ((1 : Int32) = (0 : Int32)))).2) (by decide) (by decide)) ?_
  refine own_go (fun _ => XS.aloadN X13.here hx rfl (hb hby d43_8) rfl rfl) ?_
  obtain ⟨T14, X14, e14, st14⟩ := getF X13 hx hZ hown (host := "") (Or.inl w_53) Via.refl e13 P2 (g := (mkF m 9 #[.val (.ref sb), .unset] [(.ref sb)])) rfl rfl (hb hby d43_9)
  refine own_go st14 ?_
  obtain ⟨cl15, Ar15, q15, S15, N15, H15, G15⟩ := id P6
  have ln15 : cl15.slots.size.toInt32 = (34 : Int32) := len_of S15 N15
  have al15 := X14.arraylength hx (by rw [e14]; exact Ar15.1) (State.isArrayOf_alike hZ.alike Ar15.2.1) (g := (mkF m 12 #[.val (.ref sb), .unset] [(.ref vb)])) rfl rfl (hb hby d43_12)
  rw [ln15] at al15
  refine own_go al15 ?_
  show ∃ t o, Steps p.tables e below (T14.setTop (mkF m 13 #[.val (.ref sb), .unset] [(.int (34 : Int32))])) t ∧ _
  obtain ⟨_, _, ⟨T16, L16, k16, n16⟩, -, X16, ⟨Lc16, hQ16, l16, y16, z16⟩, st16⟩ := Jvm.LawKit.callS X14 hx (y := (⟨"java/lang/StringUTF16", "newBytesFor", "(I)[B"⟩ : MethodName)) hown (mvT hZ (hw _ (List.mem_of_getElem? (i := 232) rfl))) (mvT hZ (hw _ (List.mem_of_getElem? (i := 211) rfl))) (mvT hZ w_17) (mvT hZ w_212) (by decide) (backOf (W := 0) (rmNbf l Z a0 hw [] (34 : Int32) h0 n0 Z0 OLD (⟨by decide, by decide⟩ : 0 ≤ (34 : Int32).toInt ∧ (34 : Int32).toInt ≤ 34)) hZ w_212 w_17 (by decide) (by decide)) (g := (mkF m 13 #[.val (.ref sb), .unset] [(.int (34 : Int32))])) rfl (by rw [hml]; rfl) (argsL := [(.int (34 : Int32))]) (rest := []) (lenOf pd__28I_29_5bB rfl) rfl (by show 2 * 0 + _ ≤ _; exact Nat.le_of_eq rfl) (hb hby d43_13) (fun _ _ => ⟨rfl, e14, (by decide : 0 + 1 ≤ _), (by decide : 0 + 68 ≤ _)⟩)
  dsimp only [Pt.U, Pt.locs, Pt.cells, Pt.slots] at X16 l16 y16 z16 st16 hQ16
  rw [l16, y16, z16] at X16
  obtain ⟨nb_16, kn_16, n2_16, rfl, Nq16, Kp16, G16_0, G16_1, H16_0, H16_1⟩ := hQ16
  have N16 := Fr.app N13 Nq16
  refine own_go st16 ?_
  have le_16 : h0.size ≤ T16.heap.size := Kp16.1
  have K16 : Keep h0 T16.heap [sb] := Keep.trans (Keep.refl h0 [sb]) Kp16 all0
  have lt_nb_16 : nb_16 < T16.heap.size := (G16_0).lt
  have e68 : n2_16 = (68 : Int32) := Int32.toInt_inj.mp (by rw [H16_0]; decide)
  have V68 : Arv Z T16.heap nb_16 kn_16 .byte (68 : Int32) [] (.int (0 : Int32)) := by rw [← e68]; exact G16_1
  refine own_go (fun _ => XS.astoreN X16.here hx rfl (hb hby d43_16) rfl rfl (l' := #[.val (.ref sb), .val (.ref nb_16)]) rfl) ?_
  refine own_go (fun _ => XS.aloadN X16.here hx rfl (hb hby d43_17) rfl rfl) ?_
  have F17 := (Fld.keep P2 Kp16 nin0)
  obtain ⟨T18, X18, e18, st18⟩ := getF X16 hx hZ hown (host := "") (Or.inl w_53) Via.refl rfl F17 (g := (mkF m 18 #[.val (.ref sb), .val (.ref nb_16)] [(.ref sb)])) rfl rfl (hb hby d43_18)
  refine own_go st18 ?_
  refine own_go (fun _ => XS.iconst X18.here hx rfl (hb hby d43_21)) ?_
  refine own_go (fun _ => XS.aloadN X18.here hx rfl (hb hby d43_22) rfl rfl) ?_
  refine own_go (fun _ => XS.iconst X18.here hx rfl (hb hby d43_23)) ?_
  refine own_go (fun _ => XS.aloadN X18.here hx rfl (hb hby d43_24) rfl rfl) ?_
  have F19 := (Fld.keep P4 Kp16 nin0)
  obtain ⟨T20, X20, e20, st20⟩ := getF X18 hx hZ hown (host := "") (Or.inl (hw _ (List.mem_of_getElem? (i := 78) rfl))) Via.refl e18 F19 (g := (mkF m 25 #[.val (.ref sb), .val (.ref nb_16)] [(.ref sb), (.int (0 : Int32)), (.ref nb_16), (.int (0 : Int32)), (.ref vb)])) rfl rfl (hb hby d43_25)
  refine own_go st20 ?_
  show ∃ t o, Steps p.tables e below (T20.setTop (mkF m 28 #[.val (.ref sb), .val (.ref nb_16)] [(.int (31 : Int32)), (.int (0 : Int32)), (.ref nb_16), (.int (0 : Int32)), (.ref vb)])) t ∧ _
  have F21 := (Arv.keep P6 Kp16 nin0)
  have F22 := (Old.keep OLD Kp16 all0)
  have ge23 : n0 ≤ nb_16 := by omega
  have ne24 : vb ≠ nb_16 := own_ne (by omega)
  have zl25 : n0 ≤ T16.heap.size := by omega
  obtain ⟨_, _, ⟨T26, L26, k26, n26⟩, -, X26, ⟨Lc26, hQ26, l26, y26, z26⟩, st26⟩ := Jvm.LawKit.callS X20 hx (y := (⟨"java/lang/StringLatin1", "inflate", "([BI[BII)V"⟩ : MethodName)) hown (mvT hZ (hw _ (List.mem_of_getElem? (i := 233) rfl))) (mvT hZ (hw _ (List.mem_of_getElem? (i := 234) rfl))) (mvT hZ w_204) (mvT hZ w_235) (by decide) (backOf (W := 0) (rmLinf l Z a0 hw [] vb kv cs nb_16 kn_16 gv T16.heap n0 zl25 F21 V68 F22 P9 P10 P11 P12 hgv fc hlat h16 ge23 ne24) hZ w_235 w_204 (by decide) (by decide)) (g := (mkF m 28 #[.val (.ref sb), .val (.ref nb_16)] [(.int (31 : Int32)), (.int (0 : Int32)), (.ref nb_16), (.int (0 : Int32)), (.ref vb)])) rfl (by rw [hml]; rfl) (argsL := [(.ref vb), (.int (0 : Int32)), (.ref nb_16), (.int (0 : Int32)), (.int (31 : Int32))]) (rest := []) (lenOf pd__28_5bBI_5bBII_29V rfl) rfl (by show 2 * 0 + _ ≤ _; exact Nat.le_of_eq rfl) (hb hby d43_28) (fun _ _ => ⟨rfl, e20, (by decide : 1 + 0 ≤ _), (by decide : 68 + 0 ≤ _)⟩)
  dsimp only [Pt.U, Pt.locs, Pt.cells, Pt.slots] at X26 l26 y26 z26 st26 hQ26
  rw [l26, y26, z26] at X26
  obtain ⟨rfl, Nq26, Kp26, G26_0⟩ := hQ26
  have N26 := Fr.app N16 Nq26
  refine own_go st26 ?_
  have le_26 : T16.heap.size ≤ T26.heap.size := Kp26.1
  have sz27 : h0.size ≤ nb_16 := by omega
  have K26 : Keep h0 T26.heap [sb] := Keep.trans K16 Kp26 (allS (Or.inr sz27) all0)
  refine own_go (fun _ => XS.aloadN X26.here hx rfl (hb hby d43_31) rfl rfl) ?_
  refine own_go (fun _ => XS.aloadN X26.here hx rfl (hb hby d43_32) rfl rfl) ?_
  have F28 := (Exa.keep (Exa.keep P1 Kp16) Kp26)
  have ne29 : sb ≠ nb_16 := own_ne (by omega)
  have F30 := (Fld.keep F17 Kp26 (ninS ne29 nin0))
  obtain ⟨T31, h31, X31, e31, W31, st31⟩ := putF X26 hx hZ hown (host := "") (Or.inl w_53) Via.refl rfl F30 F28 (Or.inl w_54) w_40 (ty := (.array .byte)) (by decide) rfl rfl (g := (mkF m 33 #[.val (.ref sb), .val (.ref nb_16)] [(.ref nb_16), (.ref sb)])) rfl rfl (hb hby d43_33)
  refine own_go st31 ?_
  have le_31 : T26.heap.size ≤ h31.size := Nat.le_of_eq W31.size.symm
  have K31 : Keep h0 h31 [sb] := Keep.wr K26 W31 (Or.inl (List.mem_of_getElem? (i := 0) rfl))
  have N31 := Fr.snoc X31 N26 gsb
  have Fw31 := Fld.same W31 F30
  refine own_go (fun _ => XS.aloadN X31.here hx rfl (hb hby d43_36) rfl rfl) ?_
  refine own_go (fun _ => XS.iconst X31.here hx rfl (hb hby d43_37)) ?_
  have F32 := (Exa.wr W31 F28)
  have F33 := (Fld.other W31 (Fld.keep (Fld.keep P3 Kp16 nin0) Kp26 (ninS ne29 nin0)) (Or.inr (slot_ne (a0 := a0) (Or.inl w_56) (Or.inl w_54) (by decide) (t := .byte) (t' := (.array .byte)) (by decide) (by decide))))
  obtain ⟨T34, h34, X34, e34, W34, st34⟩ := putFN X31 hx hZ hown (hw _ (List.mem_of_getElem? (i := 55) rfl)) Via.refl e31 F33 F32 (Or.inl w_56) w_40 (ty := .byte) (v' := (.int (1 : Int32).toInt8.toInt32)) (by decide) rfl (fits_nar_byte _) (g := (mkF m 38 #[.val (.ref sb), .val (.ref nb_16)] [(.int (1 : Int32)), (.ref sb)])) rfl rfl (hb hby d43_38)
  refine own_go st34 ?_
  have le_34 : h31.size ≤ h34.size := Nat.le_of_eq W34.size.symm
  have K34 : Keep h0 h34 [sb] := Keep.wr K31 W34 (Or.inl (List.mem_of_getElem? (i := 0) rfl))
  have N34 := Fr.snoc X34 N31 gsb
  have Fw34 := Fld.same W34 F33
  have Fc1 : Fld Z h34 sb "java/lang/AbstractStringBuilder" "coder" "B" (.int (1 : Int32)) := Fw34
  show ∃ t o, Steps p.tables e below (T34.setTop (mkF m 41 #[.val (.ref sb), .val (.ref nb_16)] [])) t ∧ _
  have F35 := (Exa.wr W34 F32)
  have F36 := (Fld.other W34 Fw31 (Or.inr (slot_ne (a0 := a0) (Or.inl w_54) (Or.inl w_56) (by decide) (t := (.array .byte)) (t' := .byte) (by decide) (by decide))))
  have F37 := (Fld.other W34 (Fld.other W31 (Fld.keep F19 Kp26 (ninS ne29 nin0)) (Or.inr (slot_ne (a0 := a0) (Or.inl w_79) (Or.inl w_54) (by decide) (t := .int) (t' := (.array .byte)) (by decide) (by decide)))) (Or.inr (slot_ne (a0 := a0) (Or.inl w_79) (Or.inl w_56) (by decide) (t := .int) (t' := .byte) (by decide) (by decide))))
  have F38 := (Exa.wr W34 (Exa.wr W31 (Exa.keep G16_0 Kp26)))
  have ne39 : nb_16 ≠ sb := own_ne (by omega)
  have F40 := (Arv.other (Arv.other G26_0 W31 ne39) W34 ne39)
  have F41 := (Fld.other W34 (Fld.other W31 (Fld.keep (Fld.keep P7 Kp16 nin0) Kp26 (ninS ne29 nin0)) (Or.inr (slot_ne (a0 := a0) (Or.inl w_254) (Or.inl w_54) (by decide) (t := .boolean) (t' := (.array .byte)) (by decide) (by decide)))) (Or.inr (slot_ne (a0 := a0) (Or.inl w_254) (Or.inl w_56) (by decide) (t := .boolean) (t' := .byte) (by decide) (by decide))))
  obtain ⟨fs, hr, hrun, hended, hW, hsame⟩ := X34.leave (v := none) (fun _ => rfl)
  refine ⟨_, _, ?_, hrun, hended, _, _, rfl, ?_, ⟨_, rfl⟩, hW, hsame.mono (by decide) (by decide)⟩
  · exact X34.returnOut hx Bd.returns (hb hby d43_41) hr
  · show Q_rmIflt Z _ _ _ _ _ _ h0 n0 _ T34.heap _
    rw [e34]
    exact ⟨nb_16, kn_16, rfl, N34, K34, F35, F36, Fc1, F37, F38, F40, F41, H16_1⟩
theorem ef_rmInfU (m : MethodId) (x0 : Nat) (x1 : Nat) : entryFrame m #[(.ref x0), (.ref x1)] 2 = mkF m 0 #[.val (.ref x0), .val (.ref x1)] [] := by first | (simp [entryFrame, mkF, argsToLocals, Value.category]; done) | rfl
theorem d21_17 : decode jdk_68_method_71_code 17 = .ok (.aload_n 0, 1) := by decide +kernel
theorem d21_18 : decode jdk_68_method_71_code 18 = .ok (.invokevirtual 195, 3) := by decide +kernel
theorem pd__28_29V : parseMethodDescriptor "()V" = some ⟨[], none⟩ := by decide +kernel
def Q_rmInfU (Z : State) (sb : Nat) (vb : Nat) (kv : ClassId) (cs : List Int32) (so : Nat) (zc : Int32) (gv : Value) (h0 : Heap) (n0 : Nat) (v : Option Value) (h : Heap) (L : List Loc) : Prop := ∃ (nb : Nat), ∃ (kn : ClassId), v = none ∧ Fr n0 L ∧ Keep h0 h [sb] ∧ Exa Z h sb "java/lang/StringBuilder" ∧ Fld Z h sb "java/lang/AbstractStringBuilder" "value" "[B" (.ref nb) ∧ Fld Z h sb "java/lang/AbstractStringBuilder" "coder" "B" (.int (1 : Int32)) ∧ Fld Z h sb "java/lang/AbstractStringBuilder" "count" "I" (.int (31 : Int32)) ∧ Exa Z h nb "[B" ∧ Arv Z h nb kn .byte (68 : Int32) (own_u8 cs) (.int (0 : Int32)) ∧ Fld Z h sb "java/lang/AbstractStringBuilder" "maybeLatin1" "Z" (.int (0 : Int32)) ∧ (h0.size ≤ nb)
set_option maxRecDepth 65536 in
set_option maxHeartbeats 40000000 in
theorem rmInfU (l : Launch) (Z : State) (a0 : Array Value) (hw : ∀ d ∈ tables_1, d.before a0 Z = true) (ws : List Jvm.Cond) (sb : Nat) (vb : Nat) (kv : ClassId) (cs : List Int32) (so : Nat) (zc : Int32) (gv : Value) (h0 : Heap) (n0 : Nat) (Z0 : n0 ≤ h0.size) (P1 : Exa Z h0 sb "java/lang/StringBuilder") (P2 : Fld Z h0 sb "java/lang/AbstractStringBuilder" "value" "[B" (.ref vb)) (P3 : Fld Z h0 sb "java/lang/AbstractStringBuilder" "coder" "B" (.int (0 : Int32))) (P4 : Fld Z h0 sb "java/lang/AbstractStringBuilder" "count" "I" (.int (31 : Int32))) (P5 : Exa Z h0 vb "[B") (P6 : Arv Z h0 vb kv .byte (34 : Int32) (own_lb cs) (.int (0 : Int32))) (P7 : Fld Z h0 sb "java/lang/AbstractStringBuilder" "maybeLatin1" "Z" (.int (0 : Int32))) (P8 : Exa Z h0 so "java/lang/String") (P9 : Fld Z h0 so "java/lang/String" "coder" "B" (.int (1 : Int32))) (OLD : Old Z n0 h0) (P10 : Sta Z Z.heap "java/lang/String" "COMPACT_STRINGS" "Z" (.int zc)) (P11 : Sta Z Z.heap "java/lang/StringUTF16" "$assertionsDisabled" "Z" (.int (1 : Int32))) (P12 : Sta Z Z.heap "java/lang/StringUTF16" "HI_BYTE_SHIFT" "I" (.int (0 : Int32))) (P13 : Sta Z Z.heap "java/lang/StringUTF16" "LO_BYTE_SHIFT" "I" (.int (8 : Int32))) (P14 : Sta Z Z.heap "jdk/internal/util/Preconditions" "SIOOBE_FORMATTER" "Ljava/util/function/BiFunction;" gv) (hzc : ¬ (zc = (0 : Int32))) (hgv : gv.isRef = true) (fc : own_fit (own_cv cs) (31 : Int32)) (hlat : own_lat cs) (h16 : ∀ x ∈ cs, own_c16 x) (gsb : n0 ≤ sb) (gvb : n0 ≤ vb) (hne : sb ≠ vb) :
    MetFree l (⟨"java/lang/AbstractStringBuilder", "inflateIfNeededFor", "(Ljava/lang/String;)V"⟩ : MethodName) (head1 (Jvm.Cond.code (⟨"java/lang/AbstractStringBuilder", "inflateIfNeededFor", "(Ljava/lang/String;)V"⟩ : MethodName) jdk_68_method_71_code 2 none :: ws) ({ frames := 6, cells := 1, slots := 68, locals := 89 } : Room)) (fun a U => a = #[(.ref sb), (.ref so)] ∧ Z.Warmed39 U.vm ∧ U.heap = h0) (fun _ _ _ _ _ => True) (fun _ U o U' => ∃ v L, o = .returned v ∧ Q_rmInfU Z sb vb kv cs so zc gv h0 n0 v U'.heap L ∧ FrameEnd U o U' L ({ frames := 6, cells := 1, slots := 68, locals := 89 } : Room).cells ({ frames := 6, cells := 1, slots := 68, locals := 89 } : Room).slots) := by
  refine MetFree.of_bodySF (plainFor_of_name pn_java_lang_AbstractStringBuilder) hisR ?_
  intro p e s m args below meth c s₁ Bd hml0 hP hK
  obtain ⟨rfl, hZ, hh⟩ := hP
  have hx := Bd.exec
  have hby := Bd.bytes
  have hml : c.maxLocals = 2 := hml0
  have hown : s.vm.findClass "java/lang/AbstractStringBuilder" = some m.cls := findClass_of_methodNamed Bd.named
  have hnm := (name_of_methodNamed Bd.named Bd.method).1
  have X0 : Stand p l e ({ frames := 6, cells := 1, slots := 68, locals := 89 } : Room) s m #[(.ref sb), (.ref so)] below meth c s₁ [] 0 0 := Stand.of_body Bd
  have e0 : s₁.heap = h0 := by rw [← hh, Bd.state]; rfl
  have N0 := Fr.nil n0
  have pre0 : ∀ t, Steps p.tables e below (s₁.setTop (mkF m 0 #[.val (.ref sb), .val (.ref so)] [])) t → Steps p.tables e below (s₁.setTop (entryFrame m #[(.ref sb), (.ref so)] 2)) t := fun t k => castTop (ef_rmInfU m sb so) k
  have w_227 := hw _ (List.mem_of_getElem? (i := 227) rfl)
  have w_228 := hw _ (List.mem_of_getElem? (i := 228) rfl)
  have w_230 := hw _ (List.mem_of_getElem? (i := 230) rfl)
  have w_76 := hw _ (List.mem_of_getElem? (i := 76) rfl)
  have oz := OLD.1
  have lt_sb : sb < h0.size := P1.lt
  have lt_so : so < h0.size := P8.lt
  have lt_vb : vb < h0.size := P5.lt
  refine own_go (B := s₁.setTop (mkF m 0 #[.val (.ref sb), .val (.ref so)] [])) pre0 ?_
  show ∃ t o, Steps p.tables e below (s₁.setTop (mkF m 0 #[.val (.ref sb), .val (.ref so)] [])) t ∧ _
  obtain ⟨T15, X15, e15, st15⟩ := getS2 X0 hx hZ hown (host := "") (Or.inl (hw _ (List.mem_of_getElem? (i := 52) rfl))) Via.refl e0 (Sta.ext OLD.2 P10) (g := (mkF m 0 #[.val (.ref sb), .val (.ref so)] [])) rfl (hb hby d21_0)
  refine own_go st15 ?_
  show ∃ t o, Steps p.tables e below (T15.setTop (mkF m 3 #[.val (.ref sb), .val (.ref so)] [(.int zc)])) t ∧ _
  refine own_go (fun _ => XS.ifNo X15.here hx rfl (hb hby d21_3) rfl ((if0 _ _).trans (feq hzc).1)) ?_
  refine own_go (fun _ => XS.aloadN X15.here hx rfl (hb hby d21_6) rfl rfl) ?_
  obtain ⟨T16, X16, e16, st16⟩ := getF X15 hx hZ hown (host := "") (Or.inl (hw _ (List.mem_of_getElem? (i := 55) rfl))) Via.refl e15 P3 (g := (mkF m 7 #[.val (.ref sb), .val (.ref so)] [(.ref sb)])) rfl rfl (hb hby d21_7)
  refine own_go st16 ?_
  refine own_go (fun _ => XS.aloadN X16.here hx rfl (hb hby d21_10) rfl rfl) ?_
  show ∃ t o, Steps p.tables e below (T16.setTop (mkF m 11 #[.val (.ref sb), .val (.ref so)] [(.ref so), (.int (0 : Int32))])) t ∧ _
  obtain ⟨cq17, kq17, q17a, q17b, q17c⟩ := isOf hZ e16 P8
  obtain ⟨_, _, ⟨T17, L17, k17, n17⟩, -, X17, ⟨Lc17, hQ17, l17, y17, z17⟩, st17⟩ := X16.virtualBack hx (y := (⟨"java/lang/String", "coder", "()B"⟩ : MethodName)) (z := (⟨"java/lang/String", "coder", "()B"⟩ : MethodName)) hown (mvT hZ (hw _ (List.mem_of_getElem? (i := 121) rfl))) (mvT hZ (hw _ (List.mem_of_getElem? (i := 74) rfl))) (notFace_of_selects (args := #[]) (mvT hZ w_76)) (mvT hZ w_76) (mvT hZ (hw _ (List.mem_of_getElem? (i := 75) rfl))) (by decide) (backOf (W := 1) (rmCod1 l Z a0 hw [] so zc h0 n0 Z0 P9 OLD P10 hzc) hZ (hw _ (List.mem_of_getElem? (i := 77) rfl)) (hw _ (List.mem_of_getElem? (i := 2) rfl)) (by decide) (by decide)) q17a q17c (g := (mkF m 11 #[.val (.ref sb), .val (.ref so)] [(.ref so), (.int (0 : Int32))])) rfl (by rw [hml]; rfl) (Steps.refl _) (argsL := []) (rest := [(.int (0 : Int32))]) (lenOf pd__28_29B rfl) rfl (by show 2 * 0 + _ ≤ _; exact Nat.le_of_eq rfl) (hb hby d21_11) (fun _ _ => ⟨rfl, e16, (by decide : 0 + 0 ≤ _), (by decide : 0 + 0 ≤ _)⟩)
  dsimp only [Pt.U, Pt.locs, Pt.cells, Pt.slots] at X17 l17 y17 z17 st17 hQ17
  rw [l17, y17, z17] at X17
  obtain ⟨rfl, Nq17, e17⟩ := hQ17
  have N17 := Fr.app N0 Nq17
  refine own_goT st17 ?_
  show ∃ t o, Steps p.tables e below (T17.setTop (mkF m 14 #[.val (.ref sb), .val (.ref so)] [(.int (1 : Int32)), (.int (0 : Int32))])) t ∧ _
  refine own_go (fun _ => XS.icmpNo X17.here hx rfl (hb hby d21_14) rfl (feq (by decide : ¬ ((0 : Int32) = (1 : Int32)))).1) ?_
  refine own_go (fun _ => XS.aloadN X17.here hx rfl (hb hby d21_17) rfl rfl) ?_
  show ∃ t o, Steps p.tables e below (T17.setTop (mkF m 18 #[.val (.ref sb), .val (.ref so)] [(.ref sb)])) t ∧ _
  obtain ⟨cq18, q18, q18'⟩ := P1.cell
  obtain ⟨_, _, ⟨T18, L18, k18, n18⟩, -, X18, ⟨Lc18, hQ18, l18, y18, z18⟩, st18⟩ := X17.privateBack hx (y := (⟨"java/lang/AbstractStringBuilder", "inflate", "()V"⟩ : MethodName)) hown (mvT hZ (hw _ (List.mem_of_getElem? (i := 226) rfl))) (mvT hZ w_227) (mvT hZ (own_selp (y := (⟨"java/lang/AbstractStringBuilder", "inflate", "()V"⟩ : MethodName)) (hw _ (List.mem_of_getElem? (i := 83) rfl)) rfl w_228 w_227 (by decide))) (Cond.privateMethod_at (mvP hZ w_228 (args := #[]))) (mvT hZ w_230) (by decide) (backOf (W := 0) (rmIflt l Z a0 hw [] sb vb kv cs zc gv h0 n0 Z0 P1 P2 P3 P4 P5 P6 P7 OLD P10 P11 P12 P13 P14 hzc hgv fc hlat h16 gsb gvb hne) hZ w_230 (hw _ (List.mem_of_getElem? (i := 49) rfl)) (by decide) (by decide)) (g := (mkF m 18 #[.val (.ref sb), .val (.ref so)] [(.ref sb)])) rfl (by rw [hml]; rfl) (Steps.refl _) (a := sb) (by rw [e17]; exact q18) q18' (argsL := []) (rest := []) (lenOf pd__28_29V rfl) rfl (by show 2 * 0 + _ ≤ _; exact Nat.le_of_eq rfl) (hb hby d21_18) (fun _ _ => ⟨rfl, e17, (by decide : 0 + 1 ≤ _), (by decide : 0 + 68 ≤ _)⟩)
  dsimp only [Pt.U, Pt.locs, Pt.cells, Pt.slots] at X18 l18 y18 z18 st18 hQ18
  rw [l18, y18, z18] at X18
  obtain ⟨nb_18, kn_18, rfl, Nq18, Kp18, G18_0, G18_1, G18_2, G18_3, G18_4, G18_5, G18_6, H18_0⟩ := hQ18
  have N18 := Fr.app N17 Nq18
  refine own_goT st18 ?_
  have le_18 : h0.size ≤ T18.heap.size := Kp18.1
  have K18 : Keep h0 T18.heap [sb] := Keep.trans (Keep.refl h0 [sb]) Kp18 (allS (Or.inl (List.mem_of_getElem? (i := 0) rfl)) all0)
  have lt_nb_18 : nb_18 < T18.heap.size := (G18_4).lt
  show ∃ t o, Steps p.tables e below (T18.setTop (mkF m 21 #[.val (.ref sb), .val (.ref so)] [])) t ∧ _
  obtain ⟨fs, hr, hrun, hended, hW, hsame⟩ := X18.leave (v := none) (fun _ => rfl)
  refine ⟨_, _, ?_, hrun, hended, _, _, rfl, ?_, ⟨_, rfl⟩, hW, hsame.mono (by decide) (by decide)⟩
  · exact X18.returnOut hx Bd.returns (hb hby d21_21) hr
  · show Q_rmInfU Z _ _ _ _ _ _ _ h0 n0 _ T18.heap _
    exact ⟨nb_18, kn_18, rfl, N18, K18, G18_0, G18_1, G18_2, G18_3, G18_4, G18_5, G18_6, H18_0⟩
theorem ef_rmGbU (m : MethodId) (x0 : Nat) (x1 : Nat) (x2 : Int32) (x3 : Int32) : entryFrame m #[(.ref x0), (.ref x1), (.int x2), (.int x3)] 4 = mkF m 0 #[.val (.ref x0), .val (.ref x1), .val (.int x2), .val (.int x3)] [] := by first | (simp [entryFrame, mkF, argsToLocals, Value.category]; done) | rfl
def Q_rmGbU (Z : State) (so : Nat) (tb : Nat) (kb : ClassId) (vs : List Value) (nb : Nat) (kn : ClassId) (us : List Value) (zc : Int32) (h0 : Heap) (n0 : Nat) (v : Option Value) (h : Heap) (L : List Loc) : Prop := v = none ∧ Fr n0 L ∧ Keep h0 h [nb] ∧ Arv Z h nb kn .byte (68 : Int32) (us ++ vs) (.int (0 : Int32))
set_option maxRecDepth 65536 in
set_option maxHeartbeats 40000000 in
theorem rmGbU (l : Launch) (Z : State) (a0 : Array Value) (hw : ∀ d ∈ tables_1, d.before a0 Z = true) (ws : List Jvm.Cond) (so : Nat) (tb : Nat) (kb : ClassId) (vs : List Value) (nb : Nat) (kn : ClassId) (us : List Value) (zc : Int32) (h0 : Heap) (n0 : Nat) (Z0 : n0 ≤ h0.size) (P1 : Exa Z h0 so "java/lang/String") (P2 : Fld Z h0 so "java/lang/String" "value" "[B" (.ref tb)) (P3 : Fld Z h0 so "java/lang/String" "coder" "B" (.int (1 : Int32))) (P4 : Arv Z h0 tb kb .byte (6 : Int32) vs (.int (0 : Int32))) (P5 : Arv Z h0 nb kn .byte (68 : Int32) us (.int (0 : Int32))) (OLD : Old Z n0 h0) (P6 : Sta Z Z.heap "java/lang/String" "COMPACT_STRINGS" "Z" (.int zc)) (hzc : ¬ (zc = (0 : Int32))) (f1 : own_fit vs (6 : Int32)) (f2 : own_fit us (62 : Int32)) (gnb : n0 ≤ nb) :
    MetFree l (⟨"java/lang/String", "getBytes", "([BIB)V"⟩ : MethodName) (head1 (Jvm.Cond.code (⟨"java/lang/String", "getBytes", "([BIB)V"⟩ : MethodName) jdk_42_method_147_code 4 none :: ws) ({ frames := 1, cells := 0, slots := 0, locals := 18 } : Room)) (fun a U => a = #[(.ref so), (.ref nb), (.int (31 : Int32)), (.int (1 : Int32))] ∧ Z.Warmed39 U.vm ∧ U.heap = h0) (fun _ _ _ _ _ => True) (fun _ U o U' => ∃ v L, o = .returned v ∧ Q_rmGbU Z so tb kb vs nb kn us zc h0 n0 v U'.heap L ∧ FrameEnd U o U' L ({ frames := 1, cells := 0, slots := 0, locals := 18 } : Room).cells ({ frames := 1, cells := 0, slots := 0, locals := 18 } : Room).slots) := by
  refine MetFree.of_bodySF (plainFor_of_name pn_java_lang_String) hisR ?_
  intro p e s m args below meth c s₁ Bd hml0 hP hK
  obtain ⟨rfl, hZ, hh⟩ := hP
  have hx := Bd.exec
  have hby := Bd.bytes
  have hml : c.maxLocals = 4 := hml0
  have hown : s.vm.findClass "java/lang/String" = some m.cls := findClass_of_methodNamed Bd.named
  have hnm := (name_of_methodNamed Bd.named Bd.method).1
  have X0 : Stand p l e ({ frames := 1, cells := 0, slots := 0, locals := 18 } : Room) s m #[(.ref so), (.ref nb), (.int (31 : Int32)), (.int (1 : Int32))] below meth c s₁ [] 0 0 := Stand.of_body Bd
  have e0 : s₁.heap = h0 := by rw [← hh, Bd.state]; rfl
  have N0 := Fr.nil n0
  have pre0 : ∀ t, Steps p.tables e below (s₁.setTop (mkF m 0 #[.val (.ref so), .val (.ref nb), .val (.int (31 : Int32)), .val (.int (1 : Int32))] [])) t → Steps p.tables e below (s₁.setTop (entryFrame m #[(.ref so), (.ref nb), (.int (31 : Int32)), (.int (1 : Int32))] 4)) t := fun t k => castTop (ef_rmGbU m so nb (31 : Int32) (1 : Int32)) k
  have w_28 := hw _ (List.mem_of_getElem? (i := 28) rfl)
  have w_76 := hw _ (List.mem_of_getElem? (i := 76) rfl)
  have oz := OLD.1
  have lt_nb : nb < h0.size := P5.lt
  have lt_so : so < h0.size := P1.lt
  have lt_tb : tb < h0.size := P4.lt
  refine own_go (B := s₁.setTop (mkF m 0 #[.val (.ref so), .val (.ref nb), .val (.int (31 : Int32)), .val (.int (1 : Int32))] [])) pre0 ?_
  show ∃ t o, Steps p.tables e below (s₁.setTop (mkF m 0 #[.val (.ref so), .val (.ref nb), .val (.int (31 : Int32)), .val (.int (1 : Int32))] [])) t ∧ _
  refine own_go (fun _ => XS.aloadN X0.here hx rfl (hb hby d22_0) rfl rfl) ?_
  show ∃ t o, Steps p.tables e below (s₁.setTop (mkF m 1 #[.val (.ref so), .val (.ref nb), .val (.int (31 : Int32)), .val (.int (1 : Int32))] [(.ref so)])) t ∧ _
  obtain ⟨cq7, kq7, q7a, q7b, q7c⟩ := isOf hZ e0 P1
  obtain ⟨_, _, ⟨T7, L7, k7, n7⟩, -, X7, ⟨Lc7, hQ7, l7, y7, z7⟩, st7⟩ := X0.virtualBack hx (y := (⟨"java/lang/String", "coder", "()B"⟩ : MethodName)) (z := (⟨"java/lang/String", "coder", "()B"⟩ : MethodName)) hown (mvT hZ (hw _ (List.mem_of_getElem? (i := 73) rfl))) (mvT hZ (hw _ (List.mem_of_getElem? (i := 74) rfl))) (notFace_of_selects (args := #[]) (mvT hZ w_76)) (mvT hZ w_76) (mvT hZ (hw _ (List.mem_of_getElem? (i := 75) rfl))) (by decide) (backOf (W := 0) (rmCod1 l Z a0 hw [] so zc h0 n0 Z0 P3 OLD P6 hzc) hZ (hw _ (List.mem_of_getElem? (i := 77) rfl)) (hw _ (List.mem_of_getElem? (i := 2) rfl)) (by decide) (by decide)) q7a q7c (g := (mkF m 1 #[.val (.ref so), .val (.ref nb), .val (.int (31 : Int32)), .val (.int (1 : Int32))] [(.ref so)])) rfl (by rw [hml]; rfl) (Steps.refl _) (argsL := []) (rest := []) (lenOf pd__28_29B rfl) rfl (by show 2 * 0 + _ ≤ _; exact Nat.le_of_eq rfl) (hb hby d22_1) (fun _ _ => ⟨rfl, e0, (by decide : 0 + 0 ≤ _), (by decide : 0 + 0 ≤ _)⟩)
  dsimp only [Pt.U, Pt.locs, Pt.cells, Pt.slots] at X7 l7 y7 z7 st7 hQ7
  rw [l7, y7, z7] at X7
  obtain ⟨rfl, Nq7, e7⟩ := hQ7
  have N7 := Fr.app N0 Nq7
  refine own_goT st7 ?_
  refine own_go (fun _ => XS.iloadN X7.here hx rfl (hb hby d22_4) rfl) ?_
  show ∃ t o, Steps p.tables e below (T7.setTop (mkF m 5 #[.val (.ref so), .val (.ref nb), .val (.int (31 : Int32)), .val (.int (1 : Int32))] [(.int (1 : Int32)), (.int (1 : Int32))])) t ∧ _
  refine own_go (fun _ => XS.icmpNo X7.here hx rfl (hb hby d22_5) rfl (teq (by decide : (1 : Int32) = (1 : Int32))).2) ?_
  refine own_go (fun _ => XS.aloadN X7.here hx rfl (hb hby d22_8) rfl rfl) ?_
  obtain ⟨T8, X8, e8, st8⟩ := getF X7 hx hZ hown (host := "") (Or.inl w_28) Via.refl e7 P2 (g := (mkF m 9 #[.val (.ref so), .val (.ref nb), .val (.int (31 : Int32)), .val (.int (1 : Int32))] [(.ref so)])) rfl rfl (hb hby d22_9)
  refine own_go st8 ?_
  refine own_go (fun _ => XS.iconst X8.here hx rfl (hb hby d22_12)) ?_
  refine own_go (fun _ => XS.aloadN X8.here hx rfl (hb hby d22_13) rfl rfl) ?_
  refine own_go (fun _ => XS.iloadN X8.here hx rfl (hb hby d22_14) rfl) ?_
  refine own_go (fun _ => XS.iloadN X8.here hx rfl (hb hby d22_15) rfl) ?_
  refine own_go (fun _ => XS.ishl X8.here hx rfl (hb hby d22_16) rfl) ?_
  refine own_go (fun _ => XS.aloadN X8.here hx rfl (hb hby d22_17) rfl rfl) ?_
  obtain ⟨T9, X9, e9, st9⟩ := getF X8 hx hZ hown (host := "") (Or.inl w_28) Via.refl e8 P2 (g := (mkF m 18 #[.val (.ref so), .val (.ref nb), .val (.int (31 : Int32)), .val (.int (1 : Int32))] [(.ref so), (.int (62 : Int32)), (.ref nb), (.int (0 : Int32)), (.ref tb)])) rfl rfl (hb hby d22_18)
  refine own_go st9 ?_
  show ∃ t o, Steps p.tables e below (T9.setTop (mkF m 21 #[.val (.ref so), .val (.ref nb), .val (.int (31 : Int32)), .val (.int (1 : Int32))] [(.ref tb), (.int (62 : Int32)), (.ref nb), (.int (0 : Int32)), (.ref tb)])) t ∧ _
  obtain ⟨cl10, Ar10, q10, S10, N10, H10, G10⟩ := id P4
  have ln10 : cl10.slots.size.toInt32 = (6 : Int32) := len_of S10 N10
  have al10 := X9.arraylength hx (by rw [e9]; exact Ar10.1) (State.isArrayOf_alike hZ.alike Ar10.2.1) (g := (mkF m 21 #[.val (.ref so), .val (.ref nb), .val (.int (31 : Int32)), .val (.int (1 : Int32))] [(.ref tb), (.int (62 : Int32)), (.ref nb), (.int (0 : Int32)), (.ref tb)])) rfl rfl (hb hby d22_21)
  rw [ln10] at al10
  refine own_go al10 ?_
  show ∃ t o, Steps p.tables e below (T9.setTop (mkF m 22 #[.val (.ref so), .val (.ref nb), .val (.int (31 : Int32)), .val (.int (1 : Int32))] [(.int (6 : Int32)), (.int (62 : Int32)), (.ref nb), (.int (0 : Int32)), (.ref tb)])) t ∧ _
  obtain ⟨T11, h11, L11, X11, e11, N11, Kp11, V11, st11⟩ := own_cp X9 hx hZ hown (hw _ (List.mem_of_getElem? (i := 127) rfl)) (hw _ (List.mem_of_getElem? (i := 110) rfl)) (hw _ (List.mem_of_getElem? (i := 108) rfl)) (hw _ (List.mem_of_getElem? (i := 109) rfl)) e9 P4 P5 f1 f2 (Nat.le_of_eq (own_fit.cl f1).symm) (by rw [← own_fit.cl f1, ← own_fit.cl f2]; decide) N7 gnb (g := (mkF m 22 #[.val (.ref so), .val (.ref nb), .val (.int (31 : Int32)), .val (.int (1 : Int32))] [(.int (6 : Int32)), (.int (62 : Int32)), (.ref nb), (.int (0 : Int32)), (.ref tb)])) rfl (by rw [hml]; rfl) rfl (hb hby d22_22) (by decide) (W := 0) (by show 2 * 0 + _ ≤ _; exact Nat.le_of_eq rfl) (by decide +kernel)
  refine own_go st11 ?_
  have le_11 : h0.size ≤ h11.size := Kp11.1
  have K11 : Keep h0 h11 [nb] := Keep.trans (Keep.refl h0 [nb]) Kp11 (allS (Or.inl (List.mem_of_getElem? (i := 0) rfl)) all0)
  refine own_go (fun _ => XS.goto X11.here hx rfl (pc0 := 25) (pc' := 43) rfl (hb hby d22_25) (by decide) (by decide)) ?_
  show ∃ t o, Steps p.tables e below (T11.setTop (mkF m 43 #[.val (.ref so), .val (.ref nb), .val (.int (31 : Int32)), .val (.int (1 : Int32))] [])) t ∧ _
  obtain ⟨fs, hr, hrun, hended, hW, hsame⟩ := X11.leave (v := none) (fun _ => rfl)
  refine ⟨_, _, ?_, hrun, hended, _, _, rfl, ?_, ⟨_, rfl⟩, hW, hsame.mono (by decide) (by decide)⟩
  · exact X11.returnOut hx Bd.returns (hb hby d22_43) hr
  · show Q_rmGbU Z _ _ _ _ _ _ _ _ h0 n0 _ T11.heap _
    rw [e11]
    exact ⟨rfl, N11, K11, V11⟩
theorem ef_rmPutU (m : MethodId) (x0 : Nat) (x1 : Int32) (x2 : Nat) : entryFrame m #[(.ref x0), (.int x1), (.ref x2)] 3 = mkF m 0 #[.val (.ref x0), .val (.int x1), .val (.ref x2)] [] := by first | (simp [entryFrame, mkF, argsToLocals, Value.category]; done) | rfl
def Q_rmPutU (Z : State) (so : Nat) (tb : Nat) (kb : ClassId) (vs : List Value) (sb : Nat) (vb : Nat) (kv : ClassId) (cs : List Int32) (zc : Int32) (gv : Value) (h0 : Heap) (n0 : Nat) (v : Option Value) (h : Heap) (L : List Loc) : Prop := ∃ (nb : Nat), ∃ (kn : ClassId), v = none ∧ Fr n0 L ∧ Keep h0 h [sb] ∧ Exa Z h sb "java/lang/StringBuilder" ∧ Fld Z h sb "java/lang/AbstractStringBuilder" "value" "[B" (.ref nb) ∧ Fld Z h sb "java/lang/AbstractStringBuilder" "coder" "B" (.int (1 : Int32)) ∧ Fld Z h sb "java/lang/AbstractStringBuilder" "count" "I" (.int (31 : Int32)) ∧ Exa Z h nb "[B" ∧ Arv Z h nb kn .byte (68 : Int32) ((own_u8 cs) ++ vs) (.int (0 : Int32)) ∧ Fld Z h sb "java/lang/AbstractStringBuilder" "maybeLatin1" "Z" (.int (0 : Int32)) ∧ (h0.size ≤ nb)
set_option maxRecDepth 65536 in
set_option maxHeartbeats 40000000 in
theorem rmPutU (l : Launch) (Z : State) (a0 : Array Value) (hw : ∀ d ∈ tables_1, d.before a0 Z = true) (ws : List Jvm.Cond) (so : Nat) (tb : Nat) (kb : ClassId) (vs : List Value) (sb : Nat) (vb : Nat) (kv : ClassId) (cs : List Int32) (zc : Int32) (gv : Value) (h0 : Heap) (n0 : Nat) (Z0 : n0 ≤ h0.size) (P1 : Exa Z h0 so "java/lang/String") (P2 : Fld Z h0 so "java/lang/String" "value" "[B" (.ref tb)) (P3 : Fld Z h0 so "java/lang/String" "coder" "B" (.int (1 : Int32))) (P4 : Arv Z h0 tb kb .byte (6 : Int32) vs (.int (0 : Int32))) (P5 : Exa Z h0 sb "java/lang/StringBuilder") (P6 : Fld Z h0 sb "java/lang/AbstractStringBuilder" "value" "[B" (.ref vb)) (P7 : Fld Z h0 sb "java/lang/AbstractStringBuilder" "coder" "B" (.int (0 : Int32))) (P8 : Fld Z h0 sb "java/lang/AbstractStringBuilder" "count" "I" (.int (31 : Int32))) (P9 : Exa Z h0 vb "[B") (P10 : Arv Z h0 vb kv .byte (34 : Int32) (own_lb cs) (.int (0 : Int32))) (P11 : Fld Z h0 sb "java/lang/AbstractStringBuilder" "maybeLatin1" "Z" (.int (0 : Int32))) (OLD : Old Z n0 h0) (P12 : Sta Z Z.heap "java/lang/String" "COMPACT_STRINGS" "Z" (.int zc)) (P13 : Sta Z Z.heap "java/lang/StringUTF16" "$assertionsDisabled" "Z" (.int (1 : Int32))) (P14 : Sta Z Z.heap "java/lang/StringUTF16" "HI_BYTE_SHIFT" "I" (.int (0 : Int32))) (P15 : Sta Z Z.heap "java/lang/StringUTF16" "LO_BYTE_SHIFT" "I" (.int (8 : Int32))) (P16 : Sta Z Z.heap "jdk/internal/util/Preconditions" "SIOOBE_FORMATTER" "Ljava/util/function/BiFunction;" gv) (hzc : ¬ (zc = (0 : Int32))) (hgv : gv.isRef = true) (f1 : own_fit vs (6 : Int32)) (fc : own_fit (own_cv cs) (31 : Int32)) (hlat : own_lat cs) (h16 : ∀ x ∈ cs, own_c16 x) (gsb : n0 ≤ sb) (gvb : n0 ≤ vb) (hne : sb ≠ vb) (hso : so ≠ sb) (htb : tb ≠ sb) :
    MetFree l (⟨"java/lang/AbstractStringBuilder", "putStringAt", "(ILjava/lang/String;)V"⟩ : MethodName) (head1 (Jvm.Cond.code (⟨"java/lang/AbstractStringBuilder", "putStringAt", "(ILjava/lang/String;)V"⟩ : MethodName) jdk_68_method_73_code 3 none :: ws) ({ frames := 7, cells := 1, slots := 68, locals := 102 } : Room)) (fun a U => a = #[(.ref sb), (.int (31 : Int32)), (.ref so)] ∧ Z.Warmed39 U.vm ∧ U.heap = h0) (fun _ _ _ _ _ => True) (fun _ U o U' => ∃ v L, o = .returned v ∧ Q_rmPutU Z so tb kb vs sb vb kv cs zc gv h0 n0 v U'.heap L ∧ FrameEnd U o U' L ({ frames := 7, cells := 1, slots := 68, locals := 102 } : Room).cells ({ frames := 7, cells := 1, slots := 68, locals := 102 } : Room).slots) := by
  refine MetFree.of_bodySF (plainFor_of_name pn_java_lang_AbstractStringBuilder) hisR ?_
  intro p e s m args below meth c s₁ Bd hml0 hP hK
  obtain ⟨rfl, hZ, hh⟩ := hP
  have hx := Bd.exec
  have hby := Bd.bytes
  have hml : c.maxLocals = 3 := hml0
  have hown : s.vm.findClass "java/lang/AbstractStringBuilder" = some m.cls := findClass_of_methodNamed Bd.named
  have hnm := (name_of_methodNamed Bd.named Bd.method).1
  have X0 : Stand p l e ({ frames := 7, cells := 1, slots := 68, locals := 102 } : Room) s m #[(.ref sb), (.int (31 : Int32)), (.ref so)] below meth c s₁ [] 0 0 := Stand.of_body Bd
  have e0 : s₁.heap = h0 := by rw [← hh, Bd.state]; rfl
  have N0 := Fr.nil n0
  have pre0 : ∀ t, Steps p.tables e below (s₁.setTop (mkF m 0 #[.val (.ref sb), .val (.int (31 : Int32)), .val (.ref so)] [])) t → Steps p.tables e below (s₁.setTop (entryFrame m #[(.ref sb), (.int (31 : Int32)), (.ref so)] 3)) t := fun t k => castTop (ef_rmPutU m sb (31 : Int32) so) k
  have w_117 := hw _ (List.mem_of_getElem? (i := 117) rfl)
  have w_118 := hw _ (List.mem_of_getElem? (i := 118) rfl)
  have w_120 := hw _ (List.mem_of_getElem? (i := 120) rfl)
  have w_125 := hw _ (List.mem_of_getElem? (i := 125) rfl)
  have oz := OLD.1
  have lt_sb : sb < h0.size := P5.lt
  have lt_so : so < h0.size := P1.lt
  have lt_tb : tb < h0.size := P4.lt
  have lt_vb : vb < h0.size := P9.lt
  refine own_go (B := s₁.setTop (mkF m 0 #[.val (.ref sb), .val (.int (31 : Int32)), .val (.ref so)] [])) pre0 ?_
  show ∃ t o, Steps p.tables e below (s₁.setTop (mkF m 0 #[.val (.ref sb), .val (.int (31 : Int32)), .val (.ref so)] [])) t ∧ _
  refine own_go (fun _ => XS.aloadN X0.here hx rfl (hb hby d20_0) rfl rfl) ?_
  refine own_go (fun _ => XS.aloadN X0.here hx rfl (hb hby d20_1) rfl rfl) ?_
  show ∃ t o, Steps p.tables e below (s₁.setTop (mkF m 2 #[.val (.ref sb), .val (.int (31 : Int32)), .val (.ref so)] [(.ref so), (.ref sb)])) t ∧ _
  obtain ⟨cq17, q17, q17'⟩ := P5.cell
  obtain ⟨_, _, ⟨T17, L17, k17, n17⟩, -, X17, ⟨Lc17, hQ17, l17, y17, z17⟩, st17⟩ := X0.privateBack hx (y := (⟨"java/lang/AbstractStringBuilder", "inflateIfNeededFor", "(Ljava/lang/String;)V"⟩ : MethodName)) hown (mvT hZ (hw _ (List.mem_of_getElem? (i := 116) rfl))) (mvT hZ w_117) (mvT hZ (own_selp (y := (⟨"java/lang/AbstractStringBuilder", "inflateIfNeededFor", "(Ljava/lang/String;)V"⟩ : MethodName)) (hw _ (List.mem_of_getElem? (i := 83) rfl)) rfl w_118 w_117 (by decide))) (Cond.privateMethod_at (mvP hZ w_118 (args := #[]))) (mvT hZ w_120) (by decide) (backOf (W := 0) (rmInfU l Z a0 hw [] sb vb kv cs so zc gv h0 n0 Z0 P5 P6 P7 P8 P9 P10 P11 P1 P3 OLD P12 P13 P14 P15 P16 hzc hgv fc hlat h16 gsb gvb hne) hZ w_120 (hw _ (List.mem_of_getElem? (i := 49) rfl)) (by decide) (by decide)) (g := (mkF m 2 #[.val (.ref sb), .val (.int (31 : Int32)), .val (.ref so)] [(.ref so), (.ref sb)])) rfl (by rw [hml]; rfl) (Steps.refl _) (a := sb) (by rw [e0]; exact q17) q17' (argsL := [(.ref so)]) (rest := []) (lenOf pd__28Ljava_2flang_2fString_3b_29V rfl) rfl (by show 2 * 0 + _ ≤ _; exact Nat.le_of_eq rfl) (hb hby d20_2) (fun _ _ => ⟨rfl, e0, (by decide : 0 + 1 ≤ _), (by decide : 0 + 68 ≤ _)⟩)
  dsimp only [Pt.U, Pt.locs, Pt.cells, Pt.slots] at X17 l17 y17 z17 st17 hQ17
  rw [l17, y17, z17] at X17
  obtain ⟨nb_17, kn_17, rfl, Nq17, Kp17, G17_0, G17_1, G17_2, G17_3, G17_4, G17_5, G17_6, H17_0⟩ := hQ17
  have N17 := Fr.app N0 Nq17
  refine own_goT st17 ?_
  have le_17 : h0.size ≤ T17.heap.size := Kp17.1
  have K17 : Keep h0 T17.heap [sb] := Keep.trans (Keep.refl h0 [sb]) Kp17 (allS (Or.inl (List.mem_of_getElem? (i := 0) rfl)) all0)
  have lt_nb_17 : nb_17 < T17.heap.size := (G17_4).lt
  refine own_go (fun _ => XS.aloadN X17.here hx rfl (hb hby d20_5) rfl rfl) ?_
  refine own_go (fun _ => XS.aloadN X17.here hx rfl (hb hby d20_6) rfl rfl) ?_
  obtain ⟨T18, X18, e18, st18⟩ := getF X17 hx hZ hown (host := "") (Or.inl (hw _ (List.mem_of_getElem? (i := 53) rfl))) Via.refl rfl G17_1 (g := (mkF m 7 #[.val (.ref sb), .val (.int (31 : Int32)), .val (.ref so)] [(.ref sb), (.ref so)])) rfl rfl (hb hby d20_7)
  refine own_go st18 ?_
  refine own_go (fun _ => XS.iloadN X18.here hx rfl (hb hby d20_10) rfl) ?_
  refine own_go (fun _ => XS.aloadN X18.here hx rfl (hb hby d20_11) rfl rfl) ?_
  obtain ⟨T19, X19, e19, st19⟩ := getF X18 hx hZ hown (host := "") (Or.inl (hw _ (List.mem_of_getElem? (i := 55) rfl))) Via.refl e18 G17_2 (g := (mkF m 12 #[.val (.ref sb), .val (.int (31 : Int32)), .val (.ref so)] [(.ref sb), (.int (31 : Int32)), (.ref nb_17), (.ref so)])) rfl rfl (hb hby d20_12)
  refine own_go st19 ?_
  show ∃ t o, Steps p.tables e below (T19.setTop (mkF m 15 #[.val (.ref sb), .val (.int (31 : Int32)), .val (.ref so)] [(.int (1 : Int32)), (.int (31 : Int32)), (.ref nb_17), (.ref so)])) t ∧ _
  have F20 := (Exa.keep P1 Kp17)
  have F21 := (Fld.keep P2 Kp17 (ninS hso nin0))
  have F22 := (Fld.keep P3 Kp17 (ninS hso nin0))
  have F23 := (Arv.keep P4 Kp17 (ninS htb nin0))
  have F24 := (Old.keep OLD Kp17 (allS gsb all0))
  have ge25 : n0 ≤ nb_17 := by omega
  have zl26 : n0 ≤ T17.heap.size := by omega
  obtain ⟨cq27, kq27, q27a, q27b, q27c⟩ := isOf hZ e19 F20
  obtain ⟨_, _, ⟨T27, L27, k27, n27⟩, -, X27, ⟨Lc27, hQ27, l27, y27, z27⟩, st27⟩ := X19.virtualBack hx (y := (⟨"java/lang/String", "getBytes", "([BIB)V"⟩ : MethodName)) (z := (⟨"java/lang/String", "getBytes", "([BIB)V"⟩ : MethodName)) hown (mvT hZ (hw _ (List.mem_of_getElem? (i := 122) rfl))) (mvT hZ (hw _ (List.mem_of_getElem? (i := 123) rfl))) (notFace_of_selects (args := #[]) (mvT hZ w_125)) (mvT hZ w_125) (mvT hZ (hw _ (List.mem_of_getElem? (i := 124) rfl))) (by decide) (backOf (W := 0) (rmGbU l Z a0 hw [] so tb kb vs nb_17 kn_17 (own_u8 cs) zc T17.heap n0 zl26 F20 F21 F22 F23 G17_5 F24 P12 hzc f1 (own_f62 fc : own_fit (own_u8 cs) (62 : Int32)) ge25) hZ (hw _ (List.mem_of_getElem? (i := 126) rfl)) (hw _ (List.mem_of_getElem? (i := 2) rfl)) (by decide) (by decide)) q27a q27c (g := (mkF m 15 #[.val (.ref sb), .val (.int (31 : Int32)), .val (.ref so)] [(.int (1 : Int32)), (.int (31 : Int32)), (.ref nb_17), (.ref so)])) rfl (by rw [hml]; rfl) (Steps.refl _) (argsL := [(.ref nb_17), (.int (31 : Int32)), (.int (1 : Int32))]) (rest := []) (lenOf pd__28_5bBIB_29V rfl) rfl (by show 2 * 0 + _ ≤ _; exact Nat.le_of_eq rfl) (hb hby d20_15) (fun _ _ => ⟨rfl, e19, (by decide : 1 + 0 ≤ _), (by decide : 68 + 0 ≤ _)⟩)
  dsimp only [Pt.U, Pt.locs, Pt.cells, Pt.slots] at X27 l27 y27 z27 st27 hQ27
  rw [l27, y27, z27] at X27
  obtain ⟨rfl, Nq27, Kp27, G27_0⟩ := hQ27
  have N27 := Fr.app N17 Nq27
  refine own_goT st27 ?_
  have le_27 : T17.heap.size ≤ T27.heap.size := Kp27.1
  have sz28 : h0.size ≤ nb_17 := by omega
  have K27 : Keep h0 T27.heap [sb] := Keep.trans K17 Kp27 (allS (Or.inr sz28) all0)
  show ∃ t o, Steps p.tables e below (T27.setTop (mkF m 18 #[.val (.ref sb), .val (.int (31 : Int32)), .val (.ref so)] [])) t ∧ _
  have F29 := (Exa.keep G17_0 Kp27)
  have ne30 : sb ≠ nb_17 := own_ne (by omega)
  have F31 := (Fld.keep G17_1 Kp27 (ninS ne30 nin0))
  have F32 := (Fld.keep G17_2 Kp27 (ninS ne30 nin0))
  have F33 := (Fld.keep G17_3 Kp27 (ninS ne30 nin0))
  have F34 := (Exa.keep G17_4 Kp27)
  have F35 := (Fld.keep G17_6 Kp27 (ninS ne30 nin0))
  obtain ⟨fs, hr, hrun, hended, hW, hsame⟩ := X27.leave (v := none) (fun _ => rfl)
  refine ⟨_, _, ?_, hrun, hended, _, _, rfl, ?_, ⟨_, rfl⟩, hW, hsame.mono (by decide) (by decide)⟩
  · exact X27.returnOut hx Bd.returns (hb hby d20_18) hr
  · show Q_rmPutU Z _ _ _ _ _ _ _ _ _ _ h0 n0 _ T27.heap _
    exact ⟨nb_17, kn_17, rfl, N27, K27, F29, F31, F32, F33, F34, G27_0, F35, H17_0⟩
theorem ef_rmABaU (m : MethodId) (x0 : Nat) (x1 : Nat) : entryFrame m #[(.ref x0), (.ref x1)] 3 = mkF m 0 #[.val (.ref x0), .val (.ref x1), .unset] [] := by first | (simp [entryFrame, mkF, argsToLocals, Value.category]; done) | rfl
def Q_rmABaU (Z : State) (so : Nat) (tb : Nat) (kb : ClassId) (vs : List Value) (sb : Nat) (vb : Nat) (kv : ClassId) (cs : List Int32) (zc : Int32) (gv : Value) (h0 : Heap) (n0 : Nat) (v : Option Value) (h : Heap) (L : List Loc) : Prop := ∃ (nb : Nat), ∃ (kn : ClassId), v = some (.ref sb) ∧ Fr n0 L ∧ Keep h0 h [sb] ∧ Exa Z h sb "java/lang/StringBuilder" ∧ Fld Z h sb "java/lang/AbstractStringBuilder" "value" "[B" (.ref nb) ∧ Fld Z h sb "java/lang/AbstractStringBuilder" "coder" "B" (.int (1 : Int32)) ∧ Fld Z h sb "java/lang/AbstractStringBuilder" "count" "I" (.int (34 : Int32)) ∧ Exa Z h nb "[B" ∧ Arv Z h nb kn .byte (68 : Int32) ((own_u8 cs) ++ vs) (.int (0 : Int32)) ∧ Fld Z h sb "java/lang/AbstractStringBuilder" "maybeLatin1" "Z" (.int (0 : Int32)) ∧ (h0.size ≤ nb)
set_option maxRecDepth 65536 in
set_option maxHeartbeats 40000000 in
theorem rmABaU (l : Launch) (Z : State) (a0 : Array Value) (hw : ∀ d ∈ tables_1, d.before a0 Z = true) (ws : List Jvm.Cond) (so : Nat) (tb : Nat) (kb : ClassId) (vs : List Value) (sb : Nat) (vb : Nat) (kv : ClassId) (cs : List Int32) (zc : Int32) (gv : Value) (h0 : Heap) (n0 : Nat) (Z0 : n0 ≤ h0.size) (P1 : Exa Z h0 so "java/lang/String") (P2 : Fld Z h0 so "java/lang/String" "value" "[B" (.ref tb)) (P3 : Fld Z h0 so "java/lang/String" "coder" "B" (.int (1 : Int32))) (P4 : Arv Z h0 tb kb .byte (6 : Int32) vs (.int (0 : Int32))) (P5 : Exa Z h0 sb "java/lang/StringBuilder") (P6 : Fld Z h0 sb "java/lang/AbstractStringBuilder" "value" "[B" (.ref vb)) (P7 : Fld Z h0 sb "java/lang/AbstractStringBuilder" "coder" "B" (.int (0 : Int32))) (P8 : Fld Z h0 sb "java/lang/AbstractStringBuilder" "count" "I" (.int (31 : Int32))) (P9 : Exa Z h0 vb "[B") (P10 : Arv Z h0 vb kv .byte (34 : Int32) (own_lb cs) (.int (0 : Int32))) (P11 : Fld Z h0 sb "java/lang/AbstractStringBuilder" "maybeLatin1" "Z" (.int (0 : Int32))) (OLD : Old Z n0 h0) (P12 : Sta Z Z.heap "java/lang/String" "COMPACT_STRINGS" "Z" (.int zc)) (P13 : Sta Z Z.heap "java/lang/StringUTF16" "$assertionsDisabled" "Z" (.int (1 : Int32))) (P14 : Sta Z Z.heap "java/lang/StringUTF16" "HI_BYTE_SHIFT" "I" (.int (0 : Int32))) (P15 : Sta Z Z.heap "java/lang/StringUTF16" "LO_BYTE_SHIFT" "I" (.int (8 : Int32))) (P16 : Sta Z Z.heap "jdk/internal/util/Preconditions" "SIOOBE_FORMATTER" "Ljava/util/function/BiFunction;" gv) (hzc : ¬ (zc = (0 : Int32))) (hgv : gv.isRef = true) (f1 : own_fit vs (6 : Int32)) (fc : own_fit (own_cv cs) (31 : Int32)) (hlat : own_lat cs) (h16 : ∀ x ∈ cs, own_c16 x) (gsb : n0 ≤ sb) (gvb : n0 ≤ vb) (hne : sb ≠ vb) (hso : so ≠ sb) (htb : tb ≠ sb) :
    MetFree l (⟨"java/lang/AbstractStringBuilder", "append", "(Ljava/lang/String;)Ljava/lang/AbstractStringBuilder;"⟩ : MethodName) (head1 (Jvm.Cond.code (⟨"java/lang/AbstractStringBuilder", "append", "(Ljava/lang/String;)Ljava/lang/AbstractStringBuilder;"⟩ : MethodName) jdk_68_method_22_code 3 (some (.object "java/lang/AbstractStringBuilder")) :: ws) ({ frames := 8, cells := 1, slots := 68, locals := 116 } : Room)) (fun a U => a = #[(.ref sb), (.ref so)] ∧ Z.Warmed39 U.vm ∧ U.heap = h0) (fun _ _ _ _ _ => True) (fun _ U o U' => ∃ v L, o = .returned v ∧ Q_rmABaU Z so tb kb vs sb vb kv cs zc gv h0 n0 v U'.heap L ∧ FrameEnd U o U' L ({ frames := 8, cells := 1, slots := 68, locals := 116 } : Room).cells ({ frames := 8, cells := 1, slots := 68, locals := 116 } : Room).slots) := by
  refine MetFree.of_bodySF (plainFor_of_name pn_java_lang_AbstractStringBuilder) hisR ?_
  intro p e s m args below meth c s₁ Bd hml0 hP hK
  obtain ⟨rfl, hZ, hh⟩ := hP
  have hx := Bd.exec
  have hby := Bd.bytes
  have hml : c.maxLocals = 3 := hml0
  have hown : s.vm.findClass "java/lang/AbstractStringBuilder" = some m.cls := findClass_of_methodNamed Bd.named
  have hnm := (name_of_methodNamed Bd.named Bd.method).1
  have X0 : Stand p l e ({ frames := 8, cells := 1, slots := 68, locals := 116 } : Room) s m #[(.ref sb), (.ref so)] below meth c s₁ [] 0 0 := Stand.of_body Bd
  have e0 : s₁.heap = h0 := by rw [← hh, Bd.state]; rfl
  have N0 := Fr.nil n0
  have pre0 : ∀ t, Steps p.tables e below (s₁.setTop (mkF m 0 #[.val (.ref sb), .val (.ref so), .unset] [])) t → Steps p.tables e below (s₁.setTop (entryFrame m #[(.ref sb), (.ref so)] 3)) t := fun t k => castTop (ef_rmABaU m sb so) k
  have w_112 := hw _ (List.mem_of_getElem? (i := 112) rfl)
  have w_113 := hw _ (List.mem_of_getElem? (i := 113) rfl)
  have w_115 := hw _ (List.mem_of_getElem? (i := 115) rfl)
  have w_49 := hw _ (List.mem_of_getElem? (i := 49) rfl)
  have w_71 := hw _ (List.mem_of_getElem? (i := 71) rfl)
  have w_78 := hw _ (List.mem_of_getElem? (i := 78) rfl)
  have w_79 := hw _ (List.mem_of_getElem? (i := 79) rfl)
  have w_81 := hw _ (List.mem_of_getElem? (i := 81) rfl)
  have w_82 := hw _ (List.mem_of_getElem? (i := 82) rfl)
  have w_83 := hw _ (List.mem_of_getElem? (i := 83) rfl)
  have w_84 := hw _ (List.mem_of_getElem? (i := 84) rfl)
  have oz := OLD.1
  have lt_sb : sb < h0.size := P5.lt
  have lt_so : so < h0.size := P1.lt
  have lt_tb : tb < h0.size := P4.lt
  have lt_vb : vb < h0.size := P9.lt
  refine own_go (B := s₁.setTop (mkF m 0 #[.val (.ref sb), .val (.ref so), .unset] [])) pre0 ?_
  show ∃ t o, Steps p.tables e below (s₁.setTop (mkF m 0 #[.val (.ref sb), .val (.ref so), .unset] [])) t ∧ _
  refine own_go (fun _ => XS.aloadN X0.here hx rfl (hb hby d11_0) rfl rfl) ?_
  show ∃ t o, Steps p.tables e below (s₁.setTop (mkF m 1 #[.val (.ref sb), .val (.ref so), .unset] [(.ref so)])) t ∧ _
  refine own_go (fun _ => XS.ifnonnullYes X0.here hx rfl (pc0 := 1) (pc' := 9) rfl (hb hby d11_1) rfl (by decide) (by decide)) ?_
  refine own_go (fun _ => XS.aloadN X0.here hx rfl (hb hby d11_9) rfl rfl) ?_
  show ∃ t o, Steps p.tables e below (s₁.setTop (mkF m 10 #[.val (.ref sb), .val (.ref so), .unset] [(.ref so)])) t ∧ _
  obtain ⟨cq17, kq17, q17a, q17b, q17c⟩ := isOf hZ e0 P1
  obtain ⟨_, _, ⟨T17, L17, k17, n17⟩, -, X17, ⟨Lc17, hQ17, l17, y17, z17⟩, st17⟩ := X0.virtualBack hx (y := (⟨"java/lang/String", "length", "()I"⟩ : MethodName)) (z := (⟨"java/lang/String", "length", "()I"⟩ : MethodName)) hown (mvT hZ (hw _ (List.mem_of_getElem? (i := 68) rfl))) (mvT hZ (hw _ (List.mem_of_getElem? (i := 69) rfl))) (notFace_of_selects (args := #[]) (mvT hZ w_71)) (mvT hZ w_71) (mvT hZ (hw _ (List.mem_of_getElem? (i := 70) rfl))) (by decide) (backOf (W := 0) (rmLenU l Z a0 hw [] so tb kb vs zc h0 n0 Z0 P1 P2 P3 P4 OLD P12 hzc) hZ (hw _ (List.mem_of_getElem? (i := 72) rfl)) (hw _ (List.mem_of_getElem? (i := 2) rfl)) (by decide) (by decide)) q17a q17c (g := (mkF m 10 #[.val (.ref sb), .val (.ref so), .unset] [(.ref so)])) rfl (by rw [hml]; rfl) (Steps.refl _) (argsL := []) (rest := []) (lenOf pd__28_29I rfl) rfl (by show 2 * 0 + _ ≤ _; exact Nat.le_of_eq rfl) (hb hby d11_10) (fun _ _ => ⟨rfl, e0, (by decide : 0 + 0 ≤ _), (by decide : 0 + 0 ≤ _)⟩)
  dsimp only [Pt.U, Pt.locs, Pt.cells, Pt.slots] at X17 l17 y17 z17 st17 hQ17
  rw [l17, y17, z17] at X17
  obtain ⟨rfl, Nq17, e17⟩ := hQ17
  have N17 := Fr.app N0 Nq17
  refine own_goT st17 ?_
  refine own_go (fun _ => XS.istoreN X17.here hx rfl (hb hby d11_13) rfl (l' := #[.val (.ref sb), .val (.ref so), .val (.int (3 : Int32))]) rfl) ?_
  refine own_go (fun _ => XS.aloadN X17.here hx rfl (hb hby d11_14) rfl rfl) ?_
  refine own_go (fun _ => XS.aloadN X17.here hx rfl (hb hby d11_15) rfl rfl) ?_
  obtain ⟨T18, X18, e18, st18⟩ := getF X17 hx hZ hown (host := "") (Or.inl w_78) Via.refl e17 P8 (g := (mkF m 16 #[.val (.ref sb), .val (.ref so), .val (.int (3 : Int32))] [(.ref sb), (.ref sb)])) rfl rfl (hb hby d11_16)
  refine own_go st18 ?_
  refine own_go (fun _ => XS.iloadN X18.here hx rfl (hb hby d11_19) rfl) ?_
  refine own_go (fun _ => XS.iadd X18.here hx rfl (hb hby d11_20) rfl) ?_
  show ∃ t o, Steps p.tables e below (T18.setTop (mkF m 21 #[.val (.ref sb), .val (.ref so), .val (.int (3 : Int32))] [(.int (34 : Int32)), (.ref sb)])) t ∧ _
  obtain ⟨cq19, q19, q19'⟩ := P5.cell
  obtain ⟨_, _, ⟨T19, L19, k19, n19⟩, -, X19, ⟨Lc19, hQ19, l19, y19, z19⟩, st19⟩ := X18.privateBack hx (y := (⟨"java/lang/AbstractStringBuilder", "ensureCapacityInternal", "(I)V"⟩ : MethodName)) hown (mvT hZ (hw _ (List.mem_of_getElem? (i := 80) rfl))) (mvT hZ w_81) (mvT hZ (own_selp (y := (⟨"java/lang/AbstractStringBuilder", "ensureCapacityInternal", "(I)V"⟩ : MethodName)) w_83 rfl w_82 w_81 (by decide))) (Cond.privateMethod_at (mvP hZ w_82 (args := #[]))) (mvT hZ w_84) (by decide) (backOf (W := 0) (rmEns0 l Z a0 hw [] sb vb kv (34 : Int32) (own_lb cs) (34 : Int32) h0 n0 Z0 P5 P6 P7 P9 P10 P11 OLD (by decide)) hZ w_84 w_49 (by decide) (by decide)) (g := (mkF m 21 #[.val (.ref sb), .val (.ref so), .val (.int (3 : Int32))] [(.int (34 : Int32)), (.ref sb)])) rfl (by rw [hml]; rfl) (Steps.refl _) (a := sb) (by rw [e18]; exact q19) q19' (argsL := [(.int (34 : Int32))]) (rest := []) (lenOf pd__28I_29V rfl) rfl (by show 2 * 0 + _ ≤ _; exact Nat.le_of_eq rfl) (hb hby d11_21) (fun _ _ => ⟨rfl, e18, (by decide : 0 + 0 ≤ _), (by decide : 0 + 0 ≤ _)⟩)
  dsimp only [Pt.U, Pt.locs, Pt.cells, Pt.slots] at X19 l19 y19 z19 st19 hQ19
  rw [l19, y19, z19] at X19
  obtain ⟨rfl, Nq19, e19⟩ := hQ19
  have N19 := Fr.app N17 Nq19
  refine own_goT st19 ?_
  refine own_go (fun _ => XS.aloadN X19.here hx rfl (hb hby d11_24) rfl rfl) ?_
  refine own_go (fun _ => XS.aloadN X19.here hx rfl (hb hby d11_25) rfl rfl) ?_
  obtain ⟨T20, X20, e20, st20⟩ := getF X19 hx hZ hown (host := "") (Or.inl w_78) Via.refl e19 P8 (g := (mkF m 26 #[.val (.ref sb), .val (.ref so), .val (.int (3 : Int32))] [(.ref sb), (.ref sb)])) rfl rfl (hb hby d11_26)
  refine own_go st20 ?_
  refine own_go (fun _ => XS.aloadN X20.here hx rfl (hb hby d11_29) rfl rfl) ?_
  show ∃ t o, Steps p.tables e below (T20.setTop (mkF m 30 #[.val (.ref sb), .val (.ref so), .val (.int (3 : Int32))] [(.ref so), (.int (31 : Int32)), (.ref sb)])) t ∧ _
  obtain ⟨cq21, q21, q21'⟩ := P5.cell
  obtain ⟨_, _, ⟨T21, L21, k21, n21⟩, -, X21, ⟨Lc21, hQ21, l21, y21, z21⟩, st21⟩ := X20.privateBack hx (y := (⟨"java/lang/AbstractStringBuilder", "putStringAt", "(ILjava/lang/String;)V"⟩ : MethodName)) hown (mvT hZ (hw _ (List.mem_of_getElem? (i := 111) rfl))) (mvT hZ w_112) (mvT hZ (own_selp (y := (⟨"java/lang/AbstractStringBuilder", "putStringAt", "(ILjava/lang/String;)V"⟩ : MethodName)) w_83 rfl w_113 w_112 (by decide))) (Cond.privateMethod_at (mvP hZ w_113 (args := #[]))) (mvT hZ w_115) (by decide) (backOf (W := 0) (rmPutU l Z a0 hw [] so tb kb vs sb vb kv cs zc gv h0 n0 Z0 P1 P2 P3 P4 P5 P6 P7 P8 P9 P10 P11 OLD P12 P13 P14 P15 P16 hzc hgv f1 fc hlat h16 gsb gvb hne hso htb) hZ w_115 w_49 (by decide) (by decide)) (g := (mkF m 30 #[.val (.ref sb), .val (.ref so), .val (.int (3 : Int32))] [(.ref so), (.int (31 : Int32)), (.ref sb)])) rfl (by rw [hml]; rfl) (Steps.refl _) (a := sb) (by rw [e20]; exact q21) q21' (argsL := [(.int (31 : Int32)), (.ref so)]) (rest := []) (lenOf pd__28ILjava_2flang_2fString_3b_29V rfl) rfl (by show 2 * 0 + _ ≤ _; exact Nat.le_of_eq rfl) (hb hby d11_30) (fun _ _ => ⟨rfl, e20, (by decide : 0 + 1 ≤ _), (by decide : 0 + 68 ≤ _)⟩)
  dsimp only [Pt.U, Pt.locs, Pt.cells, Pt.slots] at X21 l21 y21 z21 st21 hQ21
  rw [l21, y21, z21] at X21
  obtain ⟨nb_21, kn_21, rfl, Nq21, Kp21, G21_0, G21_1, G21_2, G21_3, G21_4, G21_5, G21_6, H21_0⟩ := hQ21
  have N21 := Fr.app N19 Nq21
  refine own_goT st21 ?_
  have le_21 : h0.size ≤ T21.heap.size := Kp21.1
  have K21 : Keep h0 T21.heap [sb] := Keep.trans (Keep.refl h0 [sb]) Kp21 (allS (Or.inl (List.mem_of_getElem? (i := 0) rfl)) all0)
  have lt_nb_21 : nb_21 < T21.heap.size := (G21_4).lt
  refine own_go (fun _ => XS.aloadN X21.here hx rfl (hb hby d11_33) rfl rfl) ?_
  refine own_go (fun _ => XS.dup X21.here hx rfl (hb hby d11_34) rfl rfl) ?_
  obtain ⟨T22, X22, e22, st22⟩ := getF X21 hx hZ hown (host := "") (Or.inl w_78) Via.refl rfl G21_3 (g := (mkF m 35 #[.val (.ref sb), .val (.ref so), .val (.int (3 : Int32))] [(.ref sb), (.ref sb)])) rfl rfl (hb hby d11_35)
  refine own_go st22 ?_
  refine own_go (fun _ => XS.iloadN X22.here hx rfl (hb hby d11_38) rfl) ?_
  refine own_go (fun _ => XS.iadd X22.here hx rfl (hb hby d11_39) rfl) ?_
  obtain ⟨T23, h23, X23, e23, W23, st23⟩ := putF X22 hx hZ hown (host := "") (Or.inl w_78) Via.refl e22 G21_3 G21_0 (Or.inl w_79) (hw _ (List.mem_of_getElem? (i := 40) rfl)) (ty := .int) (by decide) rfl rfl (g := (mkF m 40 #[.val (.ref sb), .val (.ref so), .val (.int (3 : Int32))] [(.int (34 : Int32)), (.ref sb)])) rfl rfl (hb hby d11_40)
  refine own_go st23 ?_
  have le_23 : T21.heap.size ≤ h23.size := Nat.le_of_eq W23.size.symm
  have K23 : Keep h0 h23 [sb] := Keep.wr K21 W23 (Or.inl (List.mem_of_getElem? (i := 0) rfl))
  have N23 := Fr.snoc X23 N21 gsb
  have Fw23 := Fld.same W23 G21_3
  refine own_go (fun _ => XS.aloadN X23.here hx rfl (hb hby d11_43) rfl rfl) ?_
  show ∃ t o, Steps p.tables e below (T23.setTop (mkF m 44 #[.val (.ref sb), .val (.ref so), .val (.int (3 : Int32))] [(.ref sb)])) t ∧ _
  have F24 := (Exa.wr W23 G21_0)
  have F25 := (Fld.other W23 G21_1 (Or.inr (slot_ne (a0 := a0) (Or.inl (hw _ (List.mem_of_getElem? (i := 54) rfl))) (Or.inl w_79) (by decide) (t := (.array .byte)) (t' := .int) (by decide) (by decide))))
  have F26 := (Fld.other W23 G21_2 (Or.inr (slot_ne (a0 := a0) (Or.inl (hw _ (List.mem_of_getElem? (i := 56) rfl))) (Or.inl w_79) (by decide) (t := .byte) (t' := .int) (by decide) (by decide))))
  have F27 := (Exa.wr W23 G21_4)
  have ne28 : nb_21 ≠ sb := own_ne (by omega)
  have F29 := (Arv.other G21_5 W23 ne28)
  have F30 := (Fld.other W23 G21_6 (Or.inr (slot_ne (a0 := a0) (Or.inl (hw _ (List.mem_of_getElem? (i := 254) rfl))) (Or.inl w_79) (by decide) (t := .boolean) (t' := .int) (by decide) (by decide))))
  obtain ⟨fs, hr, hrun, hended, hW, hsame⟩ := X23.leave (v := some (.ref sb)) (fun h => by rw [Bd.returns] at h; cases h)
  refine ⟨_, _, ?_, hrun, hended, _, _, rfl, ?_, ⟨_, rfl⟩, hW, hsame.mono (by decide) (by decide)⟩
  · jvm_step X23.here [X23.here.top, hx, (hb hby d11_44), X23.method', Bd.returns, Value.isRef, FieldType.isReference]
    first | (intro acts; rw [hr _ acts rfl rfl rfl]) | rw [hr _ _ rfl rfl rfl]
    exact Steps.refl _
  · show Q_rmABaU Z _ _ _ _ _ _ _ _ _ _ h0 n0 _ T23.heap _
    rw [e23]
    exact ⟨nb_21, kn_21, rfl, N23, K23, F24, F25, F26, Fw23, F27, F29, F30, H21_0⟩
theorem ef_rmSBaU (m : MethodId) (x0 : Nat) (x1 : Nat) : entryFrame m #[(.ref x0), (.ref x1)] 2 = mkF m 0 #[.val (.ref x0), .val (.ref x1)] [] := by first | (simp [entryFrame, mkF, argsToLocals, Value.category]; done) | rfl
def Q_rmSBaU (Z : State) (so : Nat) (tb : Nat) (kb : ClassId) (vs : List Value) (sb : Nat) (vb : Nat) (kv : ClassId) (cs : List Int32) (zc : Int32) (gv : Value) (h0 : Heap) (n0 : Nat) (v : Option Value) (h : Heap) (L : List Loc) : Prop := ∃ (nb : Nat), ∃ (kn : ClassId), v = some (.ref sb) ∧ Fr n0 L ∧ Keep h0 h [sb] ∧ Exa Z h sb "java/lang/StringBuilder" ∧ Fld Z h sb "java/lang/AbstractStringBuilder" "value" "[B" (.ref nb) ∧ Fld Z h sb "java/lang/AbstractStringBuilder" "coder" "B" (.int (1 : Int32)) ∧ Fld Z h sb "java/lang/AbstractStringBuilder" "count" "I" (.int (34 : Int32)) ∧ Exa Z h nb "[B" ∧ Arv Z h nb kn .byte (68 : Int32) ((own_u8 cs) ++ vs) (.int (0 : Int32)) ∧ Fld Z h sb "java/lang/AbstractStringBuilder" "maybeLatin1" "Z" (.int (0 : Int32)) ∧ (h0.size ≤ nb)
set_option maxRecDepth 65536 in
set_option maxHeartbeats 40000000 in
theorem rmSBaU (l : Launch) (Z : State) (a0 : Array Value) (hw : ∀ d ∈ tables_1, d.before a0 Z = true) (ws : List Jvm.Cond) (so : Nat) (tb : Nat) (kb : ClassId) (vs : List Value) (sb : Nat) (vb : Nat) (kv : ClassId) (cs : List Int32) (zc : Int32) (gv : Value) (h0 : Heap) (n0 : Nat) (Z0 : n0 ≤ h0.size) (P1 : Exa Z h0 so "java/lang/String") (P2 : Fld Z h0 so "java/lang/String" "value" "[B" (.ref tb)) (P3 : Fld Z h0 so "java/lang/String" "coder" "B" (.int (1 : Int32))) (P4 : Arv Z h0 tb kb .byte (6 : Int32) vs (.int (0 : Int32))) (P5 : Exa Z h0 sb "java/lang/StringBuilder") (P6 : Fld Z h0 sb "java/lang/AbstractStringBuilder" "value" "[B" (.ref vb)) (P7 : Fld Z h0 sb "java/lang/AbstractStringBuilder" "coder" "B" (.int (0 : Int32))) (P8 : Fld Z h0 sb "java/lang/AbstractStringBuilder" "count" "I" (.int (31 : Int32))) (P9 : Exa Z h0 vb "[B") (P10 : Arv Z h0 vb kv .byte (34 : Int32) (own_lb cs) (.int (0 : Int32))) (P11 : Fld Z h0 sb "java/lang/AbstractStringBuilder" "maybeLatin1" "Z" (.int (0 : Int32))) (OLD : Old Z n0 h0) (P12 : Sta Z Z.heap "java/lang/String" "COMPACT_STRINGS" "Z" (.int zc)) (P13 : Sta Z Z.heap "java/lang/StringUTF16" "$assertionsDisabled" "Z" (.int (1 : Int32))) (P14 : Sta Z Z.heap "java/lang/StringUTF16" "HI_BYTE_SHIFT" "I" (.int (0 : Int32))) (P15 : Sta Z Z.heap "java/lang/StringUTF16" "LO_BYTE_SHIFT" "I" (.int (8 : Int32))) (P16 : Sta Z Z.heap "jdk/internal/util/Preconditions" "SIOOBE_FORMATTER" "Ljava/util/function/BiFunction;" gv) (hzc : ¬ (zc = (0 : Int32))) (hgv : gv.isRef = true) (f1 : own_fit vs (6 : Int32)) (fc : own_fit (own_cv cs) (31 : Int32)) (hlat : own_lat cs) (h16 : ∀ x ∈ cs, own_c16 x) (gsb : n0 ≤ sb) (gvb : n0 ≤ vb) (hne : sb ≠ vb) (hso : so ≠ sb) (htb : tb ≠ sb) :
    MetFree l (⟨"java/lang/StringBuilder", "append", "(Ljava/lang/String;)Ljava/lang/StringBuilder;"⟩ : MethodName) (head1 (Jvm.Cond.code (⟨"java/lang/StringBuilder", "append", "(Ljava/lang/String;)Ljava/lang/StringBuilder;"⟩ : MethodName) jdk_67_method_7_code 2 (some (.object "java/lang/StringBuilder")) :: ws) ({ frames := 9, cells := 1, slots := 68, locals := 130 } : Room)) (fun a U => a = #[(.ref sb), (.ref so)] ∧ Z.Warmed39 U.vm ∧ U.heap = h0) (fun _ _ _ _ _ => True) (fun _ U o U' => ∃ v L, o = .returned v ∧ Q_rmSBaU Z so tb kb vs sb vb kv cs zc gv h0 n0 v U'.heap L ∧ FrameEnd U o U' L ({ frames := 9, cells := 1, slots := 68, locals := 130 } : Room).cells ({ frames := 9, cells := 1, slots := 68, locals := 130 } : Room).slots) := by
  refine MetFree.of_bodySF (plainFor_of_name pn_java_lang_StringBuilder) hisR ?_
  intro p e s m args below meth c s₁ Bd hml0 hP hK
  obtain ⟨rfl, hZ, hh⟩ := hP
  have hx := Bd.exec
  have hby := Bd.bytes
  have hml : c.maxLocals = 2 := hml0
  have hown : s.vm.findClass "java/lang/StringBuilder" = some m.cls := findClass_of_methodNamed Bd.named
  have hnm := (name_of_methodNamed Bd.named Bd.method).1
  have X0 : Stand p l e ({ frames := 9, cells := 1, slots := 68, locals := 130 } : Room) s m #[(.ref sb), (.ref so)] below meth c s₁ [] 0 0 := Stand.of_body Bd
  have e0 : s₁.heap = h0 := by rw [← hh, Bd.state]; rfl
  have N0 := Fr.nil n0
  have pre0 : ∀ t, Steps p.tables e below (s₁.setTop (mkF m 0 #[.val (.ref sb), .val (.ref so)] [])) t → Steps p.tables e below (s₁.setTop (entryFrame m #[(.ref sb), (.ref so)] 2)) t := fun t k => castTop (ef_rmSBaU m sb so) k
  have w_64 := hw _ (List.mem_of_getElem? (i := 64) rfl)
  have w_67 := hw _ (List.mem_of_getElem? (i := 67) rfl)
  have oz := OLD.1
  have lt_sb : sb < h0.size := P5.lt
  have lt_so : so < h0.size := P1.lt
  have lt_tb : tb < h0.size := P4.lt
  have lt_vb : vb < h0.size := P9.lt
  refine own_go (B := s₁.setTop (mkF m 0 #[.val (.ref sb), .val (.ref so)] [])) pre0 ?_
  show ∃ t o, Steps p.tables e below (s₁.setTop (mkF m 0 #[.val (.ref sb), .val (.ref so)] [])) t ∧ _
  refine own_go (fun _ => XS.aloadN X0.here hx rfl (hb hby d10_0) rfl rfl) ?_
  refine own_go (fun _ => XS.aloadN X0.here hx rfl (hb hby d10_1) rfl rfl) ?_
  show ∃ t o, Steps p.tables e below (s₁.setTop (mkF m 2 #[.val (.ref sb), .val (.ref so)] [(.ref so), (.ref sb)])) t ∧ _
  obtain ⟨_, _, ⟨T17, L17, k17, n17⟩, -, X17, ⟨Lc17, hQ17, l17, y17, z17⟩, st17⟩ := superBack X0 hx hZ (y := (⟨"java/lang/AbstractStringBuilder", "append", "(Ljava/lang/String;)Ljava/lang/AbstractStringBuilder;"⟩ : MethodName)) hown (hw _ (List.mem_of_getElem? (i := 63) rfl)) (own_same (y := (⟨"java/lang/AbstractStringBuilder", "append", "(Ljava/lang/String;)Ljava/lang/AbstractStringBuilder;"⟩ : MethodName)) (hw _ (List.mem_of_getElem? (i := 83) rfl)) rfl w_64 (by decide)) w_64 (hw _ (List.mem_of_getElem? (i := 65) rfl)) (by decide) (backOf (W := 0) (rmABaU l Z a0 hw [] so tb kb vs sb vb kv cs zc gv h0 n0 Z0 P1 P2 P3 P4 P5 P6 P7 P8 P9 P10 P11 OLD P12 P13 P14 P15 P16 hzc hgv f1 fc hlat h16 gsb gvb hne hso htb) hZ w_67 (hw _ (List.mem_of_getElem? (i := 49) rfl)) (by decide) (by decide)) e0 (Ins.self P5) (g := (mkF m 2 #[.val (.ref sb), .val (.ref so)] [(.ref so), (.ref sb)])) rfl (by rw [hml]; rfl) w_67 (argsL := [(.ref so)]) (rest := []) (lenOf pd_h496c0e57 rfl) rfl (by show 2 * 0 + _ ≤ _; exact Nat.le_of_eq rfl) (hb hby d10_2) (fun _ _ => ⟨rfl, e0, (by decide : 0 + 1 ≤ _), (by decide : 0 + 68 ≤ _)⟩)
  dsimp only [Pt.U, Pt.locs, Pt.cells, Pt.slots] at X17 l17 y17 z17 st17 hQ17
  rw [l17, y17, z17] at X17
  obtain ⟨nb_17, kn_17, rfl, Nq17, Kp17, G17_0, G17_1, G17_2, G17_3, G17_4, G17_5, G17_6, H17_0⟩ := hQ17
  have N17 := Fr.app N0 Nq17
  refine own_goT st17 ?_
  have le_17 : h0.size ≤ T17.heap.size := Kp17.1
  have K17 : Keep h0 T17.heap [sb] := Keep.trans (Keep.refl h0 [sb]) Kp17 (allS (Or.inl (List.mem_of_getElem? (i := 0) rfl)) all0)
  have lt_nb_17 : nb_17 < T17.heap.size := (G17_4).lt
  refine own_go (fun _ => XS.pop X17.here hx rfl (hb hby d10_5) rfl rfl) ?_
  refine own_go (fun _ => XS.aloadN X17.here hx rfl (hb hby d10_6) rfl rfl) ?_
  show ∃ t o, Steps p.tables e below (T17.setTop (mkF m 7 #[.val (.ref sb), .val (.ref so)] [(.ref sb)])) t ∧ _
  obtain ⟨fs, hr, hrun, hended, hW, hsame⟩ := X17.leave (v := some (.ref sb)) (fun h => by rw [Bd.returns] at h; cases h)
  refine ⟨_, _, ?_, hrun, hended, _, _, rfl, ?_, ⟨_, rfl⟩, hW, hsame.mono (by decide) (by decide)⟩
  · jvm_step X17.here [X17.here.top, hx, (hb hby d10_7), X17.method', Bd.returns, Value.isRef, FieldType.isReference]
    first | (intro acts; rw [hr _ acts rfl rfl rfl]) | rw [hr _ _ rfl rfl rfl]
    exact Steps.refl _
  · show Q_rmSBaU Z _ _ _ _ _ _ _ _ _ _ h0 n0 _ T17.heap _
    exact ⟨nb_17, kn_17, rfl, N17, K17, G17_0, G17_1, G17_2, G17_3, G17_4, G17_5, G17_6, H17_0⟩
theorem ef_rmCrU (m : MethodId) (x0 : Nat) (x1 : Int32) (x2 : Int32) : entryFrame m #[(.ref x0), (.int x1), (.int x2)] 3 = mkF m 0 #[.val (.ref x0), .val (.int x1), .val (.int x2)] [] := by first | (simp [entryFrame, mkF, argsToLocals, Value.category]; done) | rfl
def Q_rmCrU (Z : State) (vb : Nat) (kv : ClassId) (us : List Value) (h0 : Heap) (n0 : Nat) (v : Option Value) (h : Heap) (L : List Loc) : Prop := ∃ (nb : Nat), ∃ (kn : ClassId), v = some (.ref nb) ∧ Fr n0 L ∧ Keep h0 h [] ∧ Arv Z h nb kn .byte (68 : Int32) us (.int (0 : Int32)) ∧ (h0.size ≤ nb)
set_option maxRecDepth 65536 in
set_option maxHeartbeats 40000000 in
theorem rmCrU (l : Launch) (Z : State) (a0 : Array Value) (hw : ∀ d ∈ tables_1, d.before a0 Z = true) (ws : List Jvm.Cond) (vb : Nat) (kv : ClassId) (us : List Value) (h0 : Heap) (n0 : Nat) (Z0 : n0 ≤ h0.size) (P1 : Exa Z h0 vb "[B") (P2 : Arv Z h0 vb kv .byte (68 : Int32) us (.int (0 : Int32))) (OLD : Old Z n0 h0) :
    MetFree l (⟨"java/util/Arrays", "copyOfRange", "([BII)[B"⟩ : MethodName) (head1 (Jvm.Cond.code (⟨"java/util/Arrays", "copyOfRange", "([BII)[B"⟩ : MethodName) jdk_65_method_132_code 3 (some (.array .byte)) :: ws) ({ frames := 1, cells := 1, slots := 68, locals := 14 } : Room)) (fun a U => a = #[(.ref vb), (.int (0 : Int32)), (.int (68 : Int32))] ∧ Z.Warmed39 U.vm ∧ U.heap = h0) (fun _ _ _ _ _ => True) (fun _ U o U' => ∃ v L, o = .returned v ∧ Q_rmCrU Z vb kv us h0 n0 v U'.heap L ∧ FrameEnd U o U' L ({ frames := 1, cells := 1, slots := 68, locals := 14 } : Room).cells ({ frames := 1, cells := 1, slots := 68, locals := 14 } : Room).slots) := by
  refine MetFree.of_bodySF (plainFor_of_name pn_java_util_Arrays) hisR ?_
  intro p e s m args below meth c s₁ Bd hml0 hP hK
  obtain ⟨rfl, hZ, hh⟩ := hP
  have hx := Bd.exec
  have hby := Bd.bytes
  have hml : c.maxLocals = 3 := hml0
  have hown : s.vm.findClass "java/util/Arrays" = some m.cls := findClass_of_methodNamed Bd.named
  have hnm := (name_of_methodNamed Bd.named Bd.method).1
  have X0 : Stand p l e ({ frames := 1, cells := 1, slots := 68, locals := 14 } : Room) s m #[(.ref vb), (.int (0 : Int32)), (.int (68 : Int32))] below meth c s₁ [] 0 0 := Stand.of_body Bd
  have e0 : s₁.heap = h0 := by rw [← hh, Bd.state]; rfl
  have N0 := Fr.nil n0
  have pre0 : ∀ t, Steps p.tables e below (s₁.setTop (mkF m 0 #[.val (.ref vb), .val (.int (0 : Int32)), .val (.int (68 : Int32))] [])) t → Steps p.tables e below (s₁.setTop (entryFrame m #[(.ref vb), (.int (0 : Int32)), (.int (68 : Int32))] 3)) t := fun t k => castTop (ef_rmCrU m vb (0 : Int32) (68 : Int32)) k
  have oz := OLD.1
  have lt_vb : vb < h0.size := P1.lt
  refine own_go (B := s₁.setTop (mkF m 0 #[.val (.ref vb), .val (.int (0 : Int32)), .val (.int (68 : Int32))] [])) pre0 ?_
  show ∃ t o, Steps p.tables e below (s₁.setTop (mkF m 0 #[.val (.ref vb), .val (.int (0 : Int32)), .val (.int (68 : Int32))] [])) t ∧ _
  refine own_go (fun _ => XS.iloadN X0.here hx rfl (hb hby d30_0) rfl) ?_
  show ∃ t o, Steps p.tables e below (s₁.setTop (mkF m 1 #[.val (.ref vb), .val (.int (0 : Int32)), .val (.int (68 : Int32))] [(.int (0 : Int32))])) t ∧ _
  refine own_go (fun _ => XS.ifNo X0.here hx rfl (hb hby d30_1) rfl ((if0 _ _).trans (teq (by decide : (0 : Int32) = (0 : Int32))).2)) ?_
  refine own_go (fun _ => XS.iloadN X0.here hx rfl (hb hby d30_4) rfl) ?_
  refine own_go (fun _ => XS.aloadN X0.here hx rfl (hb hby d30_5) rfl rfl) ?_
  obtain ⟨cl3, Ar3, q3, S3, N3, H3, G3⟩ := id P2
  have ln3 : cl3.slots.size.toInt32 = (68 : Int32) := len_of S3 N3
  have al3 := X0.arraylength hx (by rw [e0]; exact Ar3.1) (State.isArrayOf_alike hZ.alike Ar3.2.1) (g := (mkF m 6 #[.val (.ref vb), .val (.int (0 : Int32)), .val (.int (68 : Int32))] [(.ref vb), (.int (68 : Int32))])) rfl rfl (hb hby d30_6)
  rw [ln3] at al3
  refine own_go al3 ?_
  show ∃ t o, Steps p.tables e below (s₁.setTop (mkF m 7 #[.val (.ref vb), .val (.int (0 : Int32)), .val (.int (68 : Int32))] [(.int (68 : Int32)), (.int (68 : Int32))])) t ∧ _
  refine own_go (fun _ => XS.icmpYes X0.here hx rfl (pc0 := 7) (pc' := 17) rfl (hb hby d30_7) rfl (teq (by decide : (68 : Int32) = (68 : Int32))).1 (by decide) (by decide)) ?_
  refine own_go (fun _ => XS.aloadN X0.here hx rfl (hb hby d30_17) rfl rfl) ?_
  show ∃ t o, Steps p.tables e below (s₁.setTop (mkF m 18 #[.val (.ref vb), .val (.int (0 : Int32)), .val (.int (68 : Int32))] [(.ref vb)])) t ∧ _
  obtain ⟨T4, h4, X4, e4, E4, A4, Q4, st4⟩ := cloneH X0 hx hZ hown (hw _ (List.mem_of_getElem? (i := 161) rfl)) (hw _ (List.mem_of_getElem? (i := 162) rfl)) (hw _ (List.mem_of_getElem? (i := 166) rfl)) (hw _ (List.mem_of_getElem? (i := 164) rfl)) (hw _ (List.mem_of_getElem? (i := 165) rfl)) (hw _ (List.mem_of_getElem? (i := 167) rfl)) e0 (Arv.arh P2) P1 (g := (mkF m 18 #[.val (.ref vb), .val (.int (0 : Int32)), .val (.int (68 : Int32))] [(.ref vb)])) rfl (by rw [hml]; rfl) rfl (hb hby d30_18) (by decide) (W := 0) (cap := 68) (by show 2 * 0 + _ ≤ _; exact Nat.le_of_eq rfl) (by decide) (by decide) (by decide) (by decide)
  obtain ⟨b4, g4⟩ : ∃ z, z = h0.size := ⟨_, rfl⟩
  rw [← g4] at A4 Q4 st4
  refine own_go st4 ?_
  have le_4 : h0.size ≤ h4.size := E4.1
  have V_b4 : Arv Z h4 b4 kv .byte (68 : Int32) us (.int (0 : Int32)) := A4
  have lt_b4 : b4 < h4.size := V_b4.lt
  have K4 : Keep h0 h4 [] := Keep.ext (Keep.refl h0 []) E4
  obtain ⟨T5, X5, e5, st5⟩ := castY X4 hx hZ hown (hw _ (List.mem_of_getElem? (i := 168) rfl)) e4 (Ins.self Q4) (g := (mkF m 21 #[.val (.ref vb), .val (.int (0 : Int32)), .val (.int (68 : Int32))] [(.ref b4)])) rfl rfl (hb hby d30_21)
  refine own_go st5 ?_
  show ∃ t o, Steps p.tables e below (T5.setTop (mkF m 24 #[.val (.ref vb), .val (.int (0 : Int32)), .val (.int (68 : Int32))] [(.ref b4)])) t ∧ _
  obtain ⟨fs, hr, hrun, hended, hW, hsame⟩ := X5.leave (v := some (.ref b4)) (fun h => by rw [Bd.returns] at h; cases h)
  refine ⟨_, _, ?_, hrun, hended, _, _, rfl, ?_, ⟨_, rfl⟩, hW, hsame.mono (by decide) (by decide)⟩
  · jvm_step X5.here [X5.here.top, hx, (hb hby d30_24), X5.method', Bd.returns, Value.isRef, FieldType.isReference]
    first | (intro acts; rw [hr _ acts rfl rfl rfl]) | rw [hr _ _ rfl rfl rfl]
    exact Steps.refl _
  · show Q_rmCrU Z _ _ _ h0 n0 _ T5.heap _
    rw [e5]
    exact ⟨b4, kv, rfl, N0, K4, V_b4, (by omega)⟩
theorem ef_rmABL1U (m : MethodId) (x0 : Nat) : entryFrame m #[(.ref x0)] 1 = mkF m 0 #[.val (.ref x0)] [] := by first | (simp [entryFrame, mkF, argsToLocals, Value.category]; done) | rfl
theorem d29_17 : decode jdk_68_method_68_code 17 = .ok (.iconst 0, 1) := by decide +kernel
def Q_rmABL1U (Z : State) (sb : Nat) (zc : Int32) (h0 : Heap) (n0 : Nat) (v : Option Value) (h : Heap) (L : List Loc) : Prop := v = some (.int (0 : Int32)) ∧ Fr n0 L ∧ h = h0
set_option maxRecDepth 65536 in
set_option maxHeartbeats 40000000 in
theorem rmABL1U (l : Launch) (Z : State) (a0 : Array Value) (hw : ∀ d ∈ tables_1, d.before a0 Z = true) (ws : List Jvm.Cond) (sb : Nat) (zc : Int32) (h0 : Heap) (n0 : Nat) (Z0 : n0 ≤ h0.size) (P1 : Fld Z h0 sb "java/lang/AbstractStringBuilder" "coder" "B" (.int (1 : Int32))) (OLD : Old Z n0 h0) (P2 : Sta Z Z.heap "java/lang/String" "COMPACT_STRINGS" "Z" (.int zc)) (hzc : ¬ (zc = (0 : Int32))) :
    MetFree l (⟨"java/lang/AbstractStringBuilder", "isLatin1", "()Z"⟩ : MethodName) (head1 (Jvm.Cond.code (⟨"java/lang/AbstractStringBuilder", "isLatin1", "()Z"⟩ : MethodName) jdk_68_method_68_code 1 (some .boolean) :: ws) ({ frames := 0, cells := 0, slots := 0, locals := 0 } : Room)) (fun a U => a = #[(.ref sb)] ∧ Z.Warmed39 U.vm ∧ U.heap = h0) (fun _ _ _ _ _ => True) (fun _ U o U' => ∃ v L, o = .returned v ∧ Q_rmABL1U Z sb zc h0 n0 v U'.heap L ∧ FrameEnd U o U' L ({ frames := 0, cells := 0, slots := 0, locals := 0 } : Room).cells ({ frames := 0, cells := 0, slots := 0, locals := 0 } : Room).slots) := by
  refine MetFree.of_bodySF (plainFor_of_name pn_java_lang_AbstractStringBuilder) hisR ?_
  intro p e s m args below meth c s₁ Bd hml0 hP hK
  obtain ⟨rfl, hZ, hh⟩ := hP
  have hx := Bd.exec
  have hby := Bd.bytes
  have hml : c.maxLocals = 1 := hml0
  have hown : s.vm.findClass "java/lang/AbstractStringBuilder" = some m.cls := findClass_of_methodNamed Bd.named
  have hnm := (name_of_methodNamed Bd.named Bd.method).1
  have X0 : Stand p l e ({ frames := 0, cells := 0, slots := 0, locals := 0 } : Room) s m #[(.ref sb)] below meth c s₁ [] 0 0 := Stand.of_body Bd
  have e0 : s₁.heap = h0 := by rw [← hh, Bd.state]; rfl
  have N0 := Fr.nil n0
  have pre0 : ∀ t, Steps p.tables e below (s₁.setTop (mkF m 0 #[.val (.ref sb)] [])) t → Steps p.tables e below (s₁.setTop (entryFrame m #[(.ref sb)] 1)) t := fun t k => castTop (ef_rmABL1U m sb) k
  have oz := OLD.1
  have lt_sb : sb < h0.size := P1.lt
  refine own_go (B := s₁.setTop (mkF m 0 #[.val (.ref sb)] [])) pre0 ?_
  show ∃ t o, Steps p.tables e below (s₁.setTop (mkF m 0 #[.val (.ref sb)] [])) t ∧ _
  obtain ⟨T3, X3, e3, st3⟩ := getS2 X0 hx hZ hown (host := "") (Or.inl (hw _ (List.mem_of_getElem? (i := 52) rfl))) Via.refl e0 (Sta.ext OLD.2 P2) (g := (mkF m 0 #[.val (.ref sb)] [])) rfl (hb hby d29_0)
  refine own_go st3 ?_
  show ∃ t o, Steps p.tables e below (T3.setTop (mkF m 3 #[.val (.ref sb)] [(.int zc)])) t ∧ _
  refine own_go (fun _ => XS.ifNo X3.here hx rfl (hb hby d29_3) rfl ((if0 _ _).trans (feq hzc).1)) ?_
  refine own_go (fun _ => XS.aloadN X3.here hx rfl (hb hby d29_6) rfl rfl) ?_
  obtain ⟨T4, X4, e4, st4⟩ := getF X3 hx hZ hown (host := "") (Or.inl (hw _ (List.mem_of_getElem? (i := 55) rfl))) Via.refl e3 P1 (g := (mkF m 7 #[.val (.ref sb)] [(.ref sb)])) rfl rfl (hb hby d29_7)
  refine own_go st4 ?_
  show ∃ t o, Steps p.tables e below (T4.setTop (mkF m 10 #[.val (.ref sb)] [(.int (1 : Int32))])) t ∧ _
  refine own_go (fun _ => XS.ifYes X4.here hx rfl (pc0 := 10) (pc' := 17) rfl (hb hby d29_10) rfl ((if0 _ _).trans (feq (by decide : ¬ ((1 : Int32) = (0 : Int32)))).2) (by decide) (by decide)) ?_
  refine own_go (fun _ => XS.iconst X4.here hx rfl (hb hby d29_17)) ?_
  show ∃ t o, Steps p.tables e below (T4.setTop (mkF m 18 #[.val (.ref sb)] [(.int (0 : Int32))])) t ∧ _
  obtain ⟨fs, hr, hrun, hended, hW, hsame⟩ := X4.leave (v := some (.int (0 : Int32))) (fun h => by rw [Bd.returns] at h; cases h)
  refine ⟨_, _, ?_, hrun, hended, _, _, rfl, ?_, ⟨_, rfl⟩, hW, hsame.mono (by decide) (by decide)⟩
  · exact retN X4 hx (t := .boolean) Bd.returns (by simp) (hb hby d29_18) hr
  · show Q_rmABL1U Z _ _ h0 n0 _ T4.heap _
    rw [e4]
    exact ⟨rfl, N0, rfl⟩
theorem ef_rmST2U (m : MethodId) (x0 : Nat) (x1 : Nat) : entryFrame m #[(.ref x0), (.ref x1), .null] 5 = mkF m 0 #[.val (.ref x0), .val (.ref x1), .val .null, .unset, .unset] [] := by first | (simp [entryFrame, mkF, argsToLocals, Value.category]; done) | rfl
theorem d25_41 : decode jdk_42_method_150_code 41 = .ok (.getstatic 38, 3) := by decide +kernel
theorem d25_44 : decode jdk_42_method_150_code 44 = .ok (.ifCond .eq 35, 3) := by decide +kernel
theorem d25_47 : decode jdk_42_method_150_code 47 = .ok (.aload_n 1, 1) := by decide +kernel
theorem d25_48 : decode jdk_42_method_150_code 48 = .ok (.getfield 1048, 3) := by decide +kernel
theorem d25_51 : decode jdk_42_method_150_code 51 = .ok (.ifCond .eq 28, 3) := by decide +kernel
theorem d25_79 : decode jdk_42_method_150_code 79 = .ok (.aload_n 0, 1) := by decide +kernel
theorem d25_80 : decode jdk_42_method_150_code 80 = .ok (.iconst 1, 1) := by decide +kernel
theorem d25_81 : decode jdk_42_method_150_code 81 = .ok (.putfield 15, 3) := by decide +kernel
theorem d25_84 : decode jdk_42_method_150_code 84 = .ok (.aload_n 0, 1) := by decide +kernel
theorem d25_85 : decode jdk_42_method_150_code 85 = .ok (.aload_n 3, 1) := by decide +kernel
theorem d25_86 : decode jdk_42_method_150_code 86 = .ok (.iconst 0, 1) := by decide +kernel
theorem d25_87 : decode jdk_42_method_150_code 87 = .ok (.iload 4, 2) := by decide +kernel
theorem d25_89 : decode jdk_42_method_150_code 89 = .ok (.iconst 1, 1) := by decide +kernel
theorem d25_90 : decode jdk_42_method_150_code 90 = .ok (.ishl, 1) := by decide +kernel
theorem d25_91 : decode jdk_42_method_150_code 91 = .ok (.invokestatic 54, 3) := by decide +kernel
theorem d25_94 : decode jdk_42_method_150_code 94 = .ok (.putfield 9, 3) := by decide +kernel
def Q_rmST2U (Z : State) (a1 : Nat) (sb : Nat) (vb : Nat) (kv : ClassId) (us : List Value) (zc : Int32) (h0 : Heap) (n0 : Nat) (v : Option Value) (h : Heap) (L : List Loc) : Prop := ∃ (tb : Nat), ∃ (kb : ClassId), v = none ∧ Fr n0 L ∧ Keep h0 h [a1] ∧ Exa Z h a1 "java/lang/String" ∧ Fld Z h a1 "java/lang/String" "value" "[B" (.ref tb) ∧ Fld Z h a1 "java/lang/String" "coder" "B" (.int (1 : Int32)) ∧ Arv Z h tb kb .byte (68 : Int32) us (.int (0 : Int32)) ∧ (h0.size ≤ tb)
set_option maxRecDepth 65536 in
set_option maxHeartbeats 40000000 in
theorem rmST2U (l : Launch) (Z : State) (a0 : Array Value) (hw : ∀ d ∈ tables_1, d.before a0 Z = true) (ws : List Jvm.Cond) (a1 : Nat) (sb : Nat) (vb : Nat) (kv : ClassId) (us : List Value) (zc : Int32) (h0 : Heap) (n0 : Nat) (Z0 : n0 ≤ h0.size) (P1 : Exa Z h0 a1 "java/lang/String") (P2 : Fld Z h0 a1 "java/lang/String" "value" "[B" .null) (P3 : Fld Z h0 a1 "java/lang/String" "coder" "B" (.int (0 : Int32))) (P4 : Exa Z h0 sb "java/lang/StringBuilder") (P5 : Fld Z h0 sb "java/lang/AbstractStringBuilder" "value" "[B" (.ref vb)) (P6 : Fld Z h0 sb "java/lang/AbstractStringBuilder" "coder" "B" (.int (1 : Int32))) (P7 : Fld Z h0 sb "java/lang/AbstractStringBuilder" "count" "I" (.int (34 : Int32))) (P8 : Exa Z h0 vb "[B") (P9 : Arv Z h0 vb kv .byte (68 : Int32) us (.int (0 : Int32))) (P10 : Fld Z h0 sb "java/lang/AbstractStringBuilder" "maybeLatin1" "Z" (.int (0 : Int32))) (OLD : Old Z n0 h0) (P11 : Sta Z Z.heap "java/lang/String" "COMPACT_STRINGS" "Z" (.int zc)) (hzc : ¬ (zc = (0 : Int32))) (ga : n0 ≤ a1) (ha2 : vb ≠ a1) :
    MetFree l (⟨"java/lang/String", "<init>", "(Ljava/lang/AbstractStringBuilder;Ljava/lang/Void;)V"⟩ : MethodName) (head1 (Jvm.Cond.code (⟨"java/lang/String", "<init>", "(Ljava/lang/AbstractStringBuilder;Ljava/lang/Void;)V"⟩ : MethodName) jdk_42_method_150_code 5 none :: ws) ({ frames := 2, cells := 1, slots := 68, locals := 29 } : Room)) (fun a U => a = #[(.ref a1), (.ref sb), .null] ∧ Z.Warmed39 U.vm ∧ U.heap = h0) (fun _ _ _ _ _ => True) (fun _ U o U' => ∃ v L, o = .returned v ∧ Q_rmST2U Z a1 sb vb kv us zc h0 n0 v U'.heap L ∧ FrameEnd U o U' L ({ frames := 2, cells := 1, slots := 68, locals := 29 } : Room).cells ({ frames := 2, cells := 1, slots := 68, locals := 29 } : Room).slots) := by
  refine MetFree.of_bodySF (plainFor_of_name pn_java_lang_String) hisR ?_
  intro p e s m args below meth c s₁ Bd hml0 hP hK
  obtain ⟨rfl, hZ, hh⟩ := hP
  have hx := Bd.exec
  have hby := Bd.bytes
  have hml : c.maxLocals = 5 := hml0
  have hown : s.vm.findClass "java/lang/String" = some m.cls := findClass_of_methodNamed Bd.named
  have hnm := (name_of_methodNamed Bd.named Bd.method).1
  have X0 : Stand p l e ({ frames := 2, cells := 1, slots := 68, locals := 29 } : Room) s m #[(.ref a1), (.ref sb), .null] below meth c s₁ [] 0 0 := Stand.of_body Bd
  have e0 : s₁.heap = h0 := by rw [← hh, Bd.state]; rfl
  have N0 := Fr.nil n0
  have pre0 : ∀ t, Steps p.tables e below (s₁.setTop (mkF m 0 #[.val (.ref a1), .val (.ref sb), .val .null, .unset, .unset] [])) t → Steps p.tables e below (s₁.setTop (entryFrame m #[(.ref a1), (.ref sb), .null] 5)) t := fun t k => castTop (ef_rmST2U m a1 sb) k
  have w_1 := hw _ (List.mem_of_getElem? (i := 1) rfl)
  have w_102 := hw _ (List.mem_of_getElem? (i := 102) rfl)
  have w_143 := hw _ (List.mem_of_getElem? (i := 143) rfl)
  have w_156 := hw _ (List.mem_of_getElem? (i := 156) rfl)
  have w_160 := hw _ (List.mem_of_getElem? (i := 160) rfl)
  have w_27 := hw _ (List.mem_of_getElem? (i := 27) rfl)
  have w_29 := hw _ (List.mem_of_getElem? (i := 29) rfl)
  have w_49 := hw _ (List.mem_of_getElem? (i := 49) rfl)
  have oz := OLD.1
  have lt_a1 : a1 < h0.size := P1.lt
  have lt_sb : sb < h0.size := P4.lt
  have lt_vb : vb < h0.size := P8.lt
  refine own_go (B := s₁.setTop (mkF m 0 #[.val (.ref a1), .val (.ref sb), .val .null, .unset, .unset] [])) pre0 ?_
  show ∃ t o, Steps p.tables e below (s₁.setTop (mkF m 0 #[.val (.ref a1), .val (.ref sb), .val .null, .unset, .unset] [])) t ∧ _
  refine own_go (fun _ => XS.aloadN X0.here hx rfl (hb hby d25_0) rfl rfl) ?_
  show ∃ t o, Steps p.tables e below (s₁.setTop (mkF m 1 #[.val (.ref a1), .val (.ref sb), .val .null, .unset, .unset] [(.ref a1)])) t ∧ _
  obtain ⟨T12, X12, e12, st12⟩ := initO X0 hx hZ hown (hw _ (List.mem_of_getElem? (i := 11) rfl)) (hw _ (List.mem_of_getElem? (i := 12) rfl)) (hw _ (List.mem_of_getElem? (i := 13) rfl)) e0 (g := (mkF m 1 #[.val (.ref a1), .val (.ref sb), .val .null, .unset, .unset] [(.ref a1)])) rfl (by rw [hml]; rfl) rfl (hb hby d25_1) (by decide) (W := 0) (by show 2 * 0 + _ ≤ _; exact Nat.le_of_eq rfl) (by decide)
  refine own_go st12 ?_
  refine own_go (fun _ => XS.aloadN X12.here hx rfl (hb hby d25_4) rfl rfl) ?_
  show ∃ t o, Steps p.tables e below (T12.setTop (mkF m 5 #[.val (.ref a1), .val (.ref sb), .val .null, .unset, .unset] [(.ref sb)])) t ∧ _
  obtain ⟨cq13, kq13, q13a, q13b, q13c⟩ := isOf hZ e12 P4
  obtain ⟨_, _, ⟨T13, L13, k13, n13⟩, -, X13, ⟨Lc13, hQ13, l13, y13, z13⟩, st13⟩ := X12.virtualBack hx (y := (⟨"java/lang/AbstractStringBuilder", "getValue", "()[B"⟩ : MethodName)) (z := (⟨"java/lang/AbstractStringBuilder", "getValue", "()[B"⟩ : MethodName)) hown (mvT hZ (hw _ (List.mem_of_getElem? (i := 140) rfl))) (mvT hZ (hw _ (List.mem_of_getElem? (i := 141) rfl))) (notFace_of_selects (args := #[]) (mvT hZ w_143)) (mvT hZ w_143) (mvT hZ (hw _ (List.mem_of_getElem? (i := 142) rfl))) (by decide) (backOf (W := 0) (rmGv l Z a0 hw [] sb vb h0 n0 Z0 P5 OLD) hZ (hw _ (List.mem_of_getElem? (i := 144) rfl)) w_49 (by decide) (by decide)) q13a q13c (g := (mkF m 5 #[.val (.ref a1), .val (.ref sb), .val .null, .unset, .unset] [(.ref sb)])) rfl (by rw [hml]; rfl) (Steps.refl _) (argsL := []) (rest := []) (lenOf pd__28_29_5bB rfl) rfl (by show 2 * 0 + _ ≤ _; exact Nat.le_of_eq rfl) (hb hby d25_5) (fun _ _ => ⟨rfl, e12, (by decide : 0 + 0 ≤ _), (by decide : 0 + 0 ≤ _)⟩)
  dsimp only [Pt.U, Pt.locs, Pt.cells, Pt.slots] at X13 l13 y13 z13 st13 hQ13
  rw [l13, y13, z13] at X13
  obtain ⟨rfl, Nq13, e13⟩ := hQ13
  have N13 := Fr.app N0 Nq13
  refine own_goT st13 ?_
  refine own_go (fun _ => XS.astoreN X13.here hx rfl (hb hby d25_8) rfl rfl (l' := #[.val (.ref a1), .val (.ref sb), .val .null, .val (.ref vb), .unset]) rfl) ?_
  refine own_go (fun _ => XS.aloadN X13.here hx rfl (hb hby d25_9) rfl rfl) ?_
  show ∃ t o, Steps p.tables e below (T13.setTop (mkF m 10 #[.val (.ref a1), .val (.ref sb), .val .null, .val (.ref vb), .unset] [(.ref sb)])) t ∧ _
  obtain ⟨cq14, kq14, q14a, q14b, q14c⟩ := isOf hZ e13 P4
  obtain ⟨_, _, ⟨T14, L14, k14, n14⟩, -, X14, ⟨Lc14, hQ14, l14, y14, z14⟩, st14⟩ := X13.virtualBack hx (y := (⟨"java/lang/AbstractStringBuilder", "length", "()I"⟩ : MethodName)) (z := (⟨"java/lang/StringBuilder", "length", "()I"⟩ : MethodName)) hown (mvT hZ (hw _ (List.mem_of_getElem? (i := 145) rfl))) (mvT hZ (hw _ (List.mem_of_getElem? (i := 146) rfl))) (own_nfo (args := #[]) (mvT hZ (hw _ (List.mem_of_getElem? (i := 83) rfl))) rfl) (mvT hZ (hw _ (List.mem_of_getElem? (i := 148) rfl))) (mvT hZ (hw _ (List.mem_of_getElem? (i := 149) rfl))) (by decide) (backOf (W := 0) (rmSBl l Z a0 hw [] sb (34 : Int32) h0 n0 Z0 P4 P7 OLD) hZ (hw _ (List.mem_of_getElem? (i := 150) rfl)) (hw _ (List.mem_of_getElem? (i := 41) rfl)) (by decide) (by decide)) q14a q14c (g := (mkF m 10 #[.val (.ref a1), .val (.ref sb), .val .null, .val (.ref vb), .unset] [(.ref sb)])) rfl (by rw [hml]; rfl) (Steps.refl _) (argsL := []) (rest := []) (lenOf pd__28_29I rfl) rfl (by show 2 * 0 + _ ≤ _; exact Nat.le_of_eq rfl) (hb hby d25_10) (fun _ _ => ⟨rfl, e13, (by decide : 0 + 0 ≤ _), (by decide : 0 + 0 ≤ _)⟩)
  dsimp only [Pt.U, Pt.locs, Pt.cells, Pt.slots] at X14 l14 y14 z14 st14 hQ14
  rw [l14, y14, z14] at X14
  obtain ⟨rfl, Nq14, e14⟩ := hQ14
  have N14 := Fr.app N13 Nq14
  refine own_goT st14 ?_
  refine own_go (fun _ => XS.istore X14.here hx rfl (hb hby d25_13) rfl (l' := #[.val (.ref a1), .val (.ref sb), .val .null, .val (.ref vb), .val (.int (34 : Int32))]) rfl) ?_
  refine own_go (fun _ => XS.aloadN X14.here hx rfl (hb hby d25_15) rfl rfl) ?_
  show ∃ t o, Steps p.tables e below (T14.setTop (mkF m 16 #[.val (.ref a1), .val (.ref sb), .val .null, .val (.ref vb), .val (.int (34 : Int32))] [(.ref sb)])) t ∧ _
  obtain ⟨cq15, kq15, q15a, q15b, q15c⟩ := isOf hZ e14 P4
  obtain ⟨_, _, ⟨T15, L15, k15, n15⟩, -, X15, ⟨Lc15, hQ15, l15, y15, z15⟩, st15⟩ := X14.virtualBack hx (y := (⟨"java/lang/AbstractStringBuilder", "isLatin1", "()Z"⟩ : MethodName)) (z := (⟨"java/lang/AbstractStringBuilder", "isLatin1", "()Z"⟩ : MethodName)) hown (mvT hZ (hw _ (List.mem_of_getElem? (i := 153) rfl))) (mvT hZ (hw _ (List.mem_of_getElem? (i := 154) rfl))) (notFace_of_selects (args := #[]) (mvT hZ w_156)) (mvT hZ w_156) (mvT hZ (hw _ (List.mem_of_getElem? (i := 155) rfl))) (by decide) (backOf (W := 0) (rmABL1U l Z a0 hw [] sb zc h0 n0 Z0 P6 OLD P11 hzc) hZ (hw _ (List.mem_of_getElem? (i := 157) rfl)) w_49 (by decide) (by decide)) q15a q15c (g := (mkF m 16 #[.val (.ref a1), .val (.ref sb), .val .null, .val (.ref vb), .val (.int (34 : Int32))] [(.ref sb)])) rfl (by rw [hml]; rfl) (Steps.refl _) (argsL := []) (rest := []) (lenOf pd__28_29Z rfl) rfl (by show 2 * 0 + _ ≤ _; exact Nat.le_of_eq rfl) (hb hby d25_16) (fun _ _ => ⟨rfl, e14, (by decide : 0 + 0 ≤ _), (by decide : 0 + 0 ≤ _)⟩)
  dsimp only [Pt.U, Pt.locs, Pt.cells, Pt.slots] at X15 l15 y15 z15 st15 hQ15
  rw [l15, y15, z15] at X15
  obtain ⟨rfl, Nq15, e15⟩ := hQ15
  have N15 := Fr.app N14 Nq15
  refine own_goT st15 ?_
  show ∃ t o, Steps p.tables e below (T15.setTop (mkF m 19 #[.val (.ref a1), .val (.ref sb), .val .null, .val (.ref vb), .val (.int (34 : Int32))] [(.int (0 : Int32))])) t ∧ _
  refine own_go (fun _ => XS.ifYes X15.here hx rfl (pc0 := 19) (pc' := 41) rfl (hb hby d25_19) rfl ((if0 _ _).trans (teq (by decide : (0 : Int32) = (0 : Int32))).1) (by decide) (by decide)) ?_
  obtain ⟨T16, X16, e16, st16⟩ := getS2 X15 hx hZ hown (host := "") (Or.inl (hw _ (List.mem_of_getElem? (i := 14) rfl))) Via.refl e15 (Sta.ext OLD.2 P11) (g := (mkF m 41 #[.val (.ref a1), .val (.ref sb), .val .null, .val (.ref vb), .val (.int (34 : Int32))] [])) rfl (hb hby d25_41)
  refine own_go st16 ?_
  show ∃ t o, Steps p.tables e below (T16.setTop (mkF m 44 #[.val (.ref a1), .val (.ref sb), .val .null, .val (.ref vb), .val (.int (34 : Int32))] [(.int zc)])) t ∧ _
  refine own_go (fun _ => XS.ifNo X16.here hx rfl (hb hby d25_44) rfl ((if0 _ _).trans (feq hzc).1)) ?_
  refine own_go (fun _ => XS.aloadN X16.here hx rfl (hb hby d25_47) rfl rfl) ?_
  obtain ⟨T17, X17, e17, st17⟩ := getF X16 hx hZ hown (host := "") (Or.inl (hw _ (List.mem_of_getElem? (i := 253) rfl))) Via.refl e16 P10 (g := (mkF m 48 #[.val (.ref a1), .val (.ref sb), .val .null, .val (.ref vb), .val (.int (34 : Int32))] [(.ref sb)])) rfl rfl (hb hby d25_48)
  refine own_go st17 ?_
  show ∃ t o, Steps p.tables e below (T17.setTop (mkF m 51 #[.val (.ref a1), .val (.ref sb), .val .null, .val (.ref vb), .val (.int (34 : Int32))] [(.int (0 : Int32))])) t ∧ _
  refine own_go (fun _ => XS.ifYes X17.here hx rfl (pc0 := 51) (pc' := 79) rfl (hb hby d25_51) rfl ((if0 _ _).trans (teq (by decide : (0 : Int32) = (0 : Int32))).1) (by decide) (by decide)) ?_
  refine own_go (fun _ => XS.aloadN X17.here hx rfl (hb hby d25_79) rfl rfl) ?_
  refine own_go (fun _ => XS.iconst X17.here hx rfl (hb hby d25_80)) ?_
  obtain ⟨T18, h18, X18, e18, W18, st18⟩ := putFN X17 hx hZ hown (hw _ (List.mem_of_getElem? (i := 26) rfl)) Via.refl e17 P3 P1 (Or.inr ⟨w_27, rfl, hnm⟩) w_1 (ty := .byte) (v' := (.int (1 : Int32).toInt8.toInt32)) (by decide) rfl (fits_nar_byte _) (g := (mkF m 81 #[.val (.ref a1), .val (.ref sb), .val .null, .val (.ref vb), .val (.int (34 : Int32))] [(.int (1 : Int32)), (.ref a1)])) rfl rfl (hb hby d25_81)
  refine own_go st18 ?_
  have le_18 : h0.size ≤ h18.size := Nat.le_of_eq W18.size.symm
  have K18 : Keep h0 h18 [a1] := Keep.wr (Keep.refl h0 [a1]) W18 (Or.inl (List.mem_of_getElem? (i := 0) rfl))
  have N18 := Fr.snoc X18 N15 ga
  have Fw18 := Fld.same W18 P3
  have Fcz : Fld Z h18 a1 "java/lang/String" "coder" "B" (.int (1 : Int32)) := Fw18
  refine own_go (fun _ => XS.aloadN X18.here hx rfl (hb hby d25_84) rfl rfl) ?_
  refine own_go (fun _ => XS.aloadN X18.here hx rfl (hb hby d25_85) rfl rfl) ?_
  refine own_go (fun _ => XS.iconst X18.here hx rfl (hb hby d25_86)) ?_
  refine own_go (fun _ => XS.iload X18.here hx rfl (hb hby d25_87) rfl) ?_
  refine own_go (fun _ => XS.iconst X18.here hx rfl (hb hby d25_89)) ?_
  refine own_go (fun _ => XS.ishl X18.here hx rfl (hb hby d25_90) rfl) ?_
  show ∃ t o, Steps p.tables e below (T18.setTop (mkF m 91 #[.val (.ref a1), .val (.ref sb), .val .null, .val (.ref vb), .val (.int (34 : Int32))] [(.int (68 : Int32)), (.int (0 : Int32)), (.ref vb), (.ref a1)])) t ∧ _
  have F19 := (Exa.wr W18 P8)
  have F20 := (Arv.other P9 W18 ha2)
  have F21 := (Old.wr OLD W18 ga)
  have zl22 : n0 ≤ h18.size := by omega
  obtain ⟨_, _, ⟨T23, L23, k23, n23⟩, -, X23, ⟨Lc23, hQ23, l23, y23, z23⟩, st23⟩ := Jvm.LawKit.callS X18 hx (y := (⟨"java/util/Arrays", "copyOfRange", "([BII)[B"⟩ : MethodName)) hown (mvT hZ (hw _ (List.mem_of_getElem? (i := 158) rfl))) (mvT hZ (hw _ (List.mem_of_getElem? (i := 159) rfl))) (mvT hZ w_102) (mvT hZ w_160) (by decide) (backOf (W := 1) (rmCrU l Z a0 hw [] vb kv us h18 n0 zl22 F19 F20 F21) hZ w_160 w_102 (by decide) (by decide)) (g := (mkF m 91 #[.val (.ref a1), .val (.ref sb), .val .null, .val (.ref vb), .val (.int (34 : Int32))] [(.int (68 : Int32)), (.int (0 : Int32)), (.ref vb), (.ref a1)])) rfl (by rw [hml]; rfl) (argsL := [(.ref vb), (.int (0 : Int32)), (.int (68 : Int32))]) (rest := [(.ref a1)]) (lenOf pd__28_5bBII_29_5bB rfl) rfl (by show 2 * 0 + _ ≤ _; exact Nat.le_of_eq rfl) (hb hby d25_91) (fun _ _ => ⟨rfl, e18, (by decide : 0 + 1 ≤ _), (by decide : 0 + 68 ≤ _)⟩)
  dsimp only [Pt.U, Pt.locs, Pt.cells, Pt.slots] at X23 l23 y23 z23 st23 hQ23
  rw [l23, y23, z23] at X23
  obtain ⟨nb_23, kn_23, rfl, Nq23, Kp23, G23_0, H23_0⟩ := hQ23
  have N23 := Fr.app N18 Nq23
  refine own_go st23 ?_
  have le_23 : h18.size ≤ T23.heap.size := Kp23.1
  have K23 : Keep h0 T23.heap [a1] := Keep.trans K18 Kp23 all0
  have lt_nb_23 : nb_23 < T23.heap.size := (G23_0).lt
  have F24 := (Exa.keep (Exa.wr W18 P1) Kp23)
  have F25 := (Fld.keep (Fld.other W18 P2 (Or.inr (slot_ne (a0 := a0) (Or.inr w_29) (Or.inr w_27) (by decide) (t := (.array .byte)) (t' := .byte) (by decide) (by decide)))) Kp23 nin0)
  obtain ⟨T26, h26, X26, e26, W26, st26⟩ := putF X23 hx hZ hown (host := "") (Or.inl (hw _ (List.mem_of_getElem? (i := 28) rfl))) Via.refl rfl F25 F24 (Or.inr ⟨w_29, rfl, hnm⟩) w_1 (ty := (.array .byte)) (by decide) rfl rfl (g := (mkF m 94 #[.val (.ref a1), .val (.ref sb), .val .null, .val (.ref vb), .val (.int (34 : Int32))] [(.ref nb_23), (.ref a1)])) rfl rfl (hb hby d25_94)
  refine own_go st26 ?_
  have le_26 : T23.heap.size ≤ h26.size := Nat.le_of_eq W26.size.symm
  have K26 : Keep h0 h26 [a1] := Keep.wr K23 W26 (Or.inl (List.mem_of_getElem? (i := 0) rfl))
  have N26 := Fr.snoc X26 N23 ga
  have Fw26 := Fld.same W26 F25
  show ∃ t o, Steps p.tables e below (T26.setTop (mkF m 97 #[.val (.ref a1), .val (.ref sb), .val .null, .val (.ref vb), .val (.int (34 : Int32))] [])) t ∧ _
  have F27 := (Exa.wr W26 F24)
  have F28 := (Fld.other W26 (Fld.keep Fcz Kp23 nin0) (Or.inr (slot_ne (a0 := a0) (Or.inr w_27) (Or.inr w_29) (by decide) (t := .byte) (t' := (.array .byte)) (by decide) (by decide))))
  have ne29 : nb_23 ≠ a1 := own_ne (by omega)
  have F30 := (Arv.other G23_0 W26 ne29)
  obtain ⟨fs, hr, hrun, hended, hW, hsame⟩ := X26.leave (v := none) (fun _ => rfl)
  refine ⟨_, _, ?_, hrun, hended, _, _, rfl, ?_, ⟨_, rfl⟩, hW, hsame.mono (by decide) (by decide)⟩
  · exact X26.returnOut hx Bd.returns (hb hby d25_97) hr
  · show Q_rmST2U Z _ _ _ _ _ _ h0 n0 _ T26.heap _
    rw [e26]
    exact ⟨nb_23, kn_23, rfl, N26, K26, F27, Fw26, F28, F30, (by omega)⟩
theorem ef_rmST1U (m : MethodId) (x0 : Nat) (x1 : Nat) : entryFrame m #[(.ref x0), (.ref x1)] 2 = mkF m 0 #[.val (.ref x0), .val (.ref x1)] [] := by first | (simp [entryFrame, mkF, argsToLocals, Value.category]; done) | rfl
def Q_rmST1U (Z : State) (a1 : Nat) (sb : Nat) (vb : Nat) (kv : ClassId) (us : List Value) (zc : Int32) (h0 : Heap) (n0 : Nat) (v : Option Value) (h : Heap) (L : List Loc) : Prop := ∃ (tb : Nat), ∃ (kb : ClassId), v = none ∧ Fr n0 L ∧ Keep h0 h [a1] ∧ Exa Z h a1 "java/lang/String" ∧ Fld Z h a1 "java/lang/String" "value" "[B" (.ref tb) ∧ Fld Z h a1 "java/lang/String" "coder" "B" (.int (1 : Int32)) ∧ Arv Z h tb kb .byte (68 : Int32) us (.int (0 : Int32)) ∧ (h0.size ≤ tb)
set_option maxRecDepth 65536 in
set_option maxHeartbeats 40000000 in
theorem rmST1U (l : Launch) (Z : State) (a0 : Array Value) (hw : ∀ d ∈ tables_1, d.before a0 Z = true) (ws : List Jvm.Cond) (a1 : Nat) (sb : Nat) (vb : Nat) (kv : ClassId) (us : List Value) (zc : Int32) (h0 : Heap) (n0 : Nat) (Z0 : n0 ≤ h0.size) (P1 : Exa Z h0 a1 "java/lang/String") (P2 : Fld Z h0 a1 "java/lang/String" "value" "[B" .null) (P3 : Fld Z h0 a1 "java/lang/String" "coder" "B" (.int (0 : Int32))) (P4 : Exa Z h0 sb "java/lang/StringBuilder") (P5 : Fld Z h0 sb "java/lang/AbstractStringBuilder" "value" "[B" (.ref vb)) (P6 : Fld Z h0 sb "java/lang/AbstractStringBuilder" "coder" "B" (.int (1 : Int32))) (P7 : Fld Z h0 sb "java/lang/AbstractStringBuilder" "count" "I" (.int (34 : Int32))) (P8 : Exa Z h0 vb "[B") (P9 : Arv Z h0 vb kv .byte (68 : Int32) us (.int (0 : Int32))) (P10 : Fld Z h0 sb "java/lang/AbstractStringBuilder" "maybeLatin1" "Z" (.int (0 : Int32))) (OLD : Old Z n0 h0) (P11 : Sta Z Z.heap "java/lang/String" "COMPACT_STRINGS" "Z" (.int zc)) (hzc : ¬ (zc = (0 : Int32))) (ga : n0 ≤ a1) (ha2 : vb ≠ a1) :
    MetFree l (⟨"java/lang/String", "<init>", "(Ljava/lang/StringBuilder;)V"⟩ : MethodName) (head1 (Jvm.Cond.code (⟨"java/lang/String", "<init>", "(Ljava/lang/StringBuilder;)V"⟩ : MethodName) jdk_42_method_53_code 2 none :: ws) ({ frames := 3, cells := 1, slots := 68, locals := 45 } : Room)) (fun a U => a = #[(.ref a1), (.ref sb)] ∧ Z.Warmed39 U.vm ∧ U.heap = h0) (fun _ _ _ _ _ => True) (fun _ U o U' => ∃ v L, o = .returned v ∧ Q_rmST1U Z a1 sb vb kv us zc h0 n0 v U'.heap L ∧ FrameEnd U o U' L ({ frames := 3, cells := 1, slots := 68, locals := 45 } : Room).cells ({ frames := 3, cells := 1, slots := 68, locals := 45 } : Room).slots) := by
  refine MetFree.of_bodySF (plainFor_of_name pn_java_lang_String) hisR ?_
  intro p e s m args below meth c s₁ Bd hml0 hP hK
  obtain ⟨rfl, hZ, hh⟩ := hP
  have hx := Bd.exec
  have hby := Bd.bytes
  have hml : c.maxLocals = 2 := hml0
  have hown : s.vm.findClass "java/lang/String" = some m.cls := findClass_of_methodNamed Bd.named
  have hnm := (name_of_methodNamed Bd.named Bd.method).1
  have X0 : Stand p l e ({ frames := 3, cells := 1, slots := 68, locals := 45 } : Room) s m #[(.ref a1), (.ref sb)] below meth c s₁ [] 0 0 := Stand.of_body Bd
  have e0 : s₁.heap = h0 := by rw [← hh, Bd.state]; rfl
  have N0 := Fr.nil n0
  have pre0 : ∀ t, Steps p.tables e below (s₁.setTop (mkF m 0 #[.val (.ref a1), .val (.ref sb)] [])) t → Steps p.tables e below (s₁.setTop (entryFrame m #[(.ref a1), (.ref sb)] 2)) t := fun t k => castTop (ef_rmST1U m a1 sb) k
  have w_139 := hw _ (List.mem_of_getElem? (i := 139) rfl)
  have oz := OLD.1
  have lt_a1 : a1 < h0.size := P1.lt
  have lt_sb : sb < h0.size := P4.lt
  have lt_vb : vb < h0.size := P8.lt
  refine own_go (B := s₁.setTop (mkF m 0 #[.val (.ref a1), .val (.ref sb)] [])) pre0 ?_
  show ∃ t o, Steps p.tables e below (s₁.setTop (mkF m 0 #[.val (.ref a1), .val (.ref sb)] [])) t ∧ _
  refine own_go (fun _ => XS.aloadN X0.here hx rfl (hb hby d24_0) rfl rfl) ?_
  refine own_go (fun _ => XS.aloadN X0.here hx rfl (hb hby d24_1) rfl rfl) ?_
  refine own_go (fun _ => XS.aconstNull X0.here hx rfl (hb hby d24_2)) ?_
  show ∃ t o, Steps p.tables e below (s₁.setTop (mkF m 3 #[.val (.ref a1), .val (.ref sb)] [.null, (.ref sb), (.ref a1)])) t ∧ _
  obtain ⟨_, _, ⟨T12, L12, k12, n12⟩, -, X12, ⟨Lc12, hQ12, l12, y12, z12⟩, st12⟩ := X0.specialBack hx (y := (⟨"java/lang/String", "<init>", "(Ljava/lang/AbstractStringBuilder;Ljava/lang/Void;)V"⟩ : MethodName)) rfl hown (mvT hZ (hw _ (List.mem_of_getElem? (i := 137) rfl))) (mvT hZ (hw _ (List.mem_of_getElem? (i := 138) rfl))) (mvT hZ w_139) (by decide) (backOf (W := 0) (rmST2U l Z a0 hw [] a1 sb vb kv us zc h0 n0 Z0 P1 P2 P3 P4 P5 P6 P7 P8 P9 P10 OLD P11 hzc ga ha2) hZ w_139 (hw _ (List.mem_of_getElem? (i := 2) rfl)) (by decide) (by decide)) (g := (mkF m 3 #[.val (.ref a1), .val (.ref sb)] [.null, (.ref sb), (.ref a1)])) rfl (by rw [hml]; rfl) (Steps.refl _) (a := a1) (argsL := [(.ref sb), .null]) (rest := []) (lenOf pd_h0c2c8006 rfl) rfl (by show 2 * 0 + _ ≤ _; exact Nat.le_of_eq rfl) (hb hby d24_3) (fun _ _ => ⟨rfl, e0, (by decide : 0 + 1 ≤ _), (by decide : 0 + 68 ≤ _)⟩)
  dsimp only [Pt.U, Pt.locs, Pt.cells, Pt.slots] at X12 l12 y12 z12 st12 hQ12
  rw [l12, y12, z12] at X12
  obtain ⟨tb_12, kb_12, rfl, Nq12, Kp12, G12_0, G12_1, G12_2, G12_3, H12_0⟩ := hQ12
  have N12 := Fr.app N0 Nq12
  refine own_goT st12 ?_
  have le_12 : h0.size ≤ T12.heap.size := Kp12.1
  have K12 : Keep h0 T12.heap [a1] := Keep.trans (Keep.refl h0 [a1]) Kp12 (allS (Or.inl (List.mem_of_getElem? (i := 0) rfl)) all0)
  have lt_tb_12 : tb_12 < T12.heap.size := (G12_3).lt
  show ∃ t o, Steps p.tables e below (T12.setTop (mkF m 6 #[.val (.ref a1), .val (.ref sb)] [])) t ∧ _
  obtain ⟨fs, hr, hrun, hended, hW, hsame⟩ := X12.leave (v := none) (fun _ => rfl)
  refine ⟨_, _, ?_, hrun, hended, _, _, rfl, ?_, ⟨_, rfl⟩, hW, hsame.mono (by decide) (by decide)⟩
  · exact X12.returnOut hx Bd.returns (hb hby d24_6) hr
  · show Q_rmST1U Z _ _ _ _ _ _ h0 n0 _ T12.heap _
    exact ⟨tb_12, kb_12, rfl, N12, K12, G12_0, G12_1, G12_2, G12_3, H12_0⟩
theorem ef_rmTsU (m : MethodId) (x0 : Nat) : entryFrame m #[(.ref x0)] 1 = mkF m 0 #[.val (.ref x0)] [] := by first | (simp [entryFrame, mkF, argsToLocals, Value.category]; done) | rfl
def Q_rmTsU (Z : State) (sb : Nat) (vb : Nat) (kv : ClassId) (us : List Value) (zc : Int32) (h0 : Heap) (n0 : Nat) (v : Option Value) (h : Heap) (L : List Loc) : Prop := ∃ (b : Nat), ∃ (tb : Nat), ∃ (kb : ClassId), v = some (.ref b) ∧ Fr n0 L ∧ Keep h0 h [] ∧ Exa Z h b "java/lang/String" ∧ Fld Z h b "java/lang/String" "value" "[B" (.ref tb) ∧ Fld Z h b "java/lang/String" "coder" "B" (.int (1 : Int32)) ∧ Arv Z h tb kb .byte (68 : Int32) us (.int (0 : Int32)) ∧ (h0.size ≤ b) ∧ (h0.size ≤ tb)
set_option maxRecDepth 65536 in
set_option maxHeartbeats 40000000 in
theorem rmTsU (l : Launch) (Z : State) (a0 : Array Value) (hw : ∀ d ∈ tables_1, d.before a0 Z = true) (ws : List Jvm.Cond) (sb : Nat) (vb : Nat) (kv : ClassId) (us : List Value) (zc : Int32) (h0 : Heap) (n0 : Nat) (Z0 : n0 ≤ h0.size) (P1 : Exa Z h0 sb "java/lang/StringBuilder") (P2 : Fld Z h0 sb "java/lang/AbstractStringBuilder" "value" "[B" (.ref vb)) (P3 : Fld Z h0 sb "java/lang/AbstractStringBuilder" "coder" "B" (.int (1 : Int32))) (P4 : Fld Z h0 sb "java/lang/AbstractStringBuilder" "count" "I" (.int (34 : Int32))) (P5 : Exa Z h0 vb "[B") (P6 : Arv Z h0 vb kv .byte (68 : Int32) us (.int (0 : Int32))) (P7 : Fld Z h0 sb "java/lang/AbstractStringBuilder" "maybeLatin1" "Z" (.int (0 : Int32))) (OLD : Old Z n0 h0) (P8 : Sta Z Z.heap "java/lang/String" "COMPACT_STRINGS" "Z" (.int zc)) (hzc : ¬ (zc = (0 : Int32))) :
    MetFree l (⟨"java/lang/StringBuilder", "toString", "()Ljava/lang/String;"⟩ : MethodName) (head1 (Jvm.Cond.code (⟨"java/lang/StringBuilder", "toString", "()Ljava/lang/String;"⟩ : MethodName) jdk_67_method_42_code 1 (some (.object "java/lang/String")) :: ws) ({ frames := 4, cells := 2, slots := 72, locals := 59 } : Room)) (fun a U => a = #[(.ref sb)] ∧ Z.Warmed39 U.vm ∧ U.heap = h0) (fun _ _ _ _ _ => True) (fun _ U o U' => ∃ v L, o = .returned v ∧ Q_rmTsU Z sb vb kv us zc h0 n0 v U'.heap L ∧ FrameEnd U o U' L ({ frames := 4, cells := 2, slots := 72, locals := 59 } : Room).cells ({ frames := 4, cells := 2, slots := 72, locals := 59 } : Room).slots) := by
  refine MetFree.of_bodySF (plainFor_of_name pn_java_lang_StringBuilder) hisR ?_
  intro p e s m args below meth c s₁ Bd hml0 hP hK
  obtain ⟨rfl, hZ, hh⟩ := hP
  have hx := Bd.exec
  have hby := Bd.bytes
  have hml : c.maxLocals = 1 := hml0
  have hown : s.vm.findClass "java/lang/StringBuilder" = some m.cls := findClass_of_methodNamed Bd.named
  have hnm := (name_of_methodNamed Bd.named Bd.method).1
  have X0 : Stand p l e ({ frames := 4, cells := 2, slots := 72, locals := 59 } : Room) s m #[(.ref sb)] below meth c s₁ [] 0 0 := Stand.of_body Bd
  have e0 : s₁.heap = h0 := by rw [← hh, Bd.state]; rfl
  have N0 := Fr.nil n0
  have pre0 : ∀ t, Steps p.tables e below (s₁.setTop (mkF m 0 #[.val (.ref sb)] [])) t → Steps p.tables e below (s₁.setTop (entryFrame m #[(.ref sb)] 1)) t := fun t k => castTop (ef_rmTsU m sb) k
  have w_136 := hw _ (List.mem_of_getElem? (i := 136) rfl)
  have w_2 := hw _ (List.mem_of_getElem? (i := 2) rfl)
  have oz := OLD.1
  have lt_sb : sb < h0.size := P1.lt
  have lt_vb : vb < h0.size := P5.lt
  refine own_go (B := s₁.setTop (mkF m 0 #[.val (.ref sb)] [])) pre0 ?_
  show ∃ t o, Steps p.tables e below (s₁.setTop (mkF m 0 #[.val (.ref sb)] [])) t ∧ _
  obtain ⟨T9, h9, X9, e9, E9, A9, D9, -, st9⟩ := newO X0 hx hZ hown (hw _ (List.mem_of_getElem? (i := 133) rfl)) (hw _ (List.mem_of_getElem? (i := 1) rfl)) w_2 e0 (g := (mkF m 0 #[.val (.ref sb)] [])) rfl (hb hby d23_0) (by decide) (by decide)
  obtain ⟨b9, g9⟩ : ∃ z, z = h0.size := ⟨_, rfl⟩
  rw [← g9] at A9 D9 st9
  refine own_go st9 ?_
  have le_9 : h0.size ≤ h9.size := E9.1
  have lt_b9 : b9 < h9.size := A9.lt
  have F_coder_b9 : Fld Z h9 b9 "java/lang/String" "coder" "B" (.int (0 : Int32)) := D9 (Or.inr (hw _ (List.mem_of_getElem? (i := 27) rfl))) (ty := .byte) (by decide)
  have F_value_b9 : Fld Z h9 b9 "java/lang/String" "value" "[B" .null := D9 (Or.inr (hw _ (List.mem_of_getElem? (i := 29) rfl))) (ty := (.array .byte)) (by decide)
  have K9 : Keep h0 h9 [] := Keep.ext (Keep.refl h0 []) E9
  refine own_go (fun _ => XS.dup X9.here hx rfl (hb hby d23_3) rfl rfl) ?_
  refine own_go (fun _ => XS.aloadN X9.here hx rfl (hb hby d23_4) rfl rfl) ?_
  show ∃ t o, Steps p.tables e below (T9.setTop (mkF m 5 #[.val (.ref sb)] [(.ref sb), (.ref b9), (.ref b9)])) t ∧ _
  have F10 := (Exa.ext E9 P1)
  have F11 := (Fld.ext E9 P2)
  have F12 := (Fld.ext E9 P3)
  have F13 := (Fld.ext E9 P4)
  have F14 := (Exa.ext E9 P5)
  have F15 := (P6.ext E9)
  have F16 := (Fld.ext E9 P7)
  have F17 := (OLD.ext E9)
  have ge18 : n0 ≤ b9 := by omega
  have ne19 : vb ≠ b9 := own_ne (by omega)
  have zl20 : n0 ≤ h9.size := by omega
  obtain ⟨_, _, ⟨T21, L21, k21, n21⟩, -, X21, ⟨Lc21, hQ21, l21, y21, z21⟩, st21⟩ := X9.specialBack hx (y := (⟨"java/lang/String", "<init>", "(Ljava/lang/StringBuilder;)V"⟩ : MethodName)) rfl hown (mvT hZ (hw _ (List.mem_of_getElem? (i := 134) rfl))) (mvT hZ (hw _ (List.mem_of_getElem? (i := 135) rfl))) (mvT hZ w_136) (by decide) (backOf (W := 1) (rmST1U l Z a0 hw [] b9 sb vb kv us zc h9 n0 zl20 A9 F_value_b9 F_coder_b9 F10 F11 F12 F13 F14 F15 F16 F17 P8 hzc ge18 ne19) hZ w_136 w_2 (by decide) (by decide)) (g := (mkF m 5 #[.val (.ref sb)] [(.ref sb), (.ref b9), (.ref b9)])) rfl (by rw [hml]; rfl) (Steps.refl _) (a := b9) (argsL := [(.ref sb)]) (rest := [(.ref b9)]) (lenOf pd__28Ljava_2flang_2fStringBuilder_3b_29V rfl) rfl (by show 2 * 0 + _ ≤ _; exact Nat.le_of_eq rfl) (hb hby d23_5) (fun _ _ => ⟨rfl, e9, (by decide : 1 + 1 ≤ _), (by decide : 4 + 68 ≤ _)⟩)
  dsimp only [Pt.U, Pt.locs, Pt.cells, Pt.slots] at X21 l21 y21 z21 st21 hQ21
  rw [l21, y21, z21] at X21
  obtain ⟨tb_21, kb_21, rfl, Nq21, Kp21, G21_0, G21_1, G21_2, G21_3, H21_0⟩ := hQ21
  have N21 := Fr.app N0 Nq21
  refine own_goT st21 ?_
  have le_21 : h9.size ≤ T21.heap.size := Kp21.1
  have sz22 : h0.size ≤ b9 := by omega
  have K21 : Keep h0 T21.heap [] := Keep.trans K9 Kp21 (allS (Or.inr sz22) all0)
  have lt_tb_21 : tb_21 < T21.heap.size := (G21_3).lt
  show ∃ t o, Steps p.tables e below (T21.setTop (mkF m 8 #[.val (.ref sb)] [(.ref b9)])) t ∧ _
  obtain ⟨fs, hr, hrun, hended, hW, hsame⟩ := X21.leave (v := some (.ref b9)) (fun h => by rw [Bd.returns] at h; cases h)
  refine ⟨_, _, ?_, hrun, hended, _, _, rfl, ?_, ⟨_, rfl⟩, hW, hsame.mono (by decide) (by decide)⟩
  · jvm_step X21.here [X21.here.top, hx, (hb hby d23_8), X21.method', Bd.returns, Value.isRef, FieldType.isReference]
    first | (intro acts; rw [hr _ acts rfl rfl rfl]) | rw [hr _ _ rfl rfl rfl]
    exact Steps.refl _
  · show Q_rmTsU Z _ _ _ _ _ h0 n0 _ T21.heap _
    exact ⟨b9, tb_21, kb_21, rfl, N21, K21, G21_0, G21_1, G21_2, G21_3, (by omega), (by omega)⟩
theorem ef_rmLeq (m : MethodId) (x0 : Nat) (x1 : Nat) : entryFrame m #[(.ref x0), (.ref x1)] 3 = mkF m 0 #[.val (.ref x0), .val (.ref x1), .unset] [] := by first | (simp [entryFrame, mkF, argsToLocals, Value.category]; done) | rfl
theorem d37_0 : decode jdk_43_method_13_code 0 = .ok (.aload_n 0, 1) := by decide +kernel
theorem d37_1 : decode jdk_43_method_13_code 1 = .ok (.arraylength, 1) := by decide +kernel
theorem d37_2 : decode jdk_43_method_13_code 2 = .ok (.aload_n 1, 1) := by decide +kernel
theorem d37_3 : decode jdk_43_method_13_code 3 = .ok (.arraylength, 1) := by decide +kernel
theorem d37_4 : decode jdk_43_method_13_code 4 = .ok (.if_icmp .ne 30, 3) := by decide +kernel
theorem d37_9 : decode jdk_43_method_13_code 9 = .ok (.iload_n 2, 1) := by decide +kernel
theorem d37_10 : decode jdk_43_method_13_code 10 = .ok (.aload_n 0, 1) := by decide +kernel
theorem d37_11 : decode jdk_43_method_13_code 11 = .ok (.arraylength, 1) := by decide +kernel
theorem d37_12 : decode jdk_43_method_13_code 12 = .ok (.if_icmp .ge 20, 3) := by decide +kernel
theorem d37_15 : decode jdk_43_method_13_code 15 = .ok (.aload_n 0, 1) := by decide +kernel
theorem d37_16 : decode jdk_43_method_13_code 16 = .ok (.iload_n 2, 1) := by decide +kernel
theorem d37_17 : decode jdk_43_method_13_code 17 = .ok (.baload, 1) := by decide +kernel
theorem d37_18 : decode jdk_43_method_13_code 18 = .ok (.aload_n 1, 1) := by decide +kernel
theorem d37_19 : decode jdk_43_method_13_code 19 = .ok (.iload_n 2, 1) := by decide +kernel
theorem d37_20 : decode jdk_43_method_13_code 20 = .ok (.baload, 1) := by decide +kernel
theorem d37_21 : decode jdk_43_method_13_code 21 = .ok (.if_icmp .eq 5, 3) := by decide +kernel
theorem d37_26 : decode jdk_43_method_13_code 26 = .ok (.iinc 2 1, 3) := by decide +kernel
theorem d37_29 : decode jdk_43_method_13_code 29 = .ok (.goto (-20), 3) := by decide +kernel
theorem d37_24 : decode jdk_43_method_13_code 24 = .ok (.iconst 0, 1) := by decide +kernel
theorem d37_25 : decode jdk_43_method_13_code 25 = .ok (.ireturn, 1) := by decide +kernel
theorem d37_32 : decode jdk_43_method_13_code 32 = .ok (.iconst 1, 1) := by decide +kernel
theorem d37_33 : decode jdk_43_method_13_code 33 = .ok (.ireturn, 1) := by decide +kernel
theorem d37_7 : decode jdk_43_method_13_code 7 = .ok (.iconst 0, 1) := by decide +kernel
theorem d37_8 : decode jdk_43_method_13_code 8 = .ok (.istore_n 2, 1) := by decide +kernel
theorem d37_34 : decode jdk_43_method_13_code 34 = .ok (.iconst 0, 1) := by decide +kernel
theorem d37_35 : decode jdk_43_method_13_code 35 = .ok (.ireturn, 1) := by decide +kernel
def Q_rmLeq (Z : State) (ta : Nat) (ka : ClassId) (na : Int32) (va : List Value) (tb : Nat) (kb : ClassId) (nb : Int32) (wb : List Value) (h0 : Heap) (n0 : Nat) (v : Option Value) (h : Heap) (L : List Loc) : Prop := ∃ (r1 : Int32), v = some (.int r1) ∧ Fr n0 L ∧ h = h0 ∧ ((r1 = (1 : Int32) ∧ va = wb) ∨ (r1 = (0 : Int32) ∧ ¬ (va = wb)))
set_option maxRecDepth 65536 in
set_option maxHeartbeats 40000000 in
theorem rmLeq (l : Launch) (Z : State) (a0 : Array Value) (hw : ∀ d ∈ tables_1, d.before a0 Z = true) (ws : List Jvm.Cond) (ta : Nat) (ka : ClassId) (na : Int32) (va : List Value) (tb : Nat) (kb : ClassId) (nb : Int32) (wb : List Value) (h0 : Heap) (n0 : Nat) (Z0 : n0 ≤ h0.size) (P1 : Arv Z h0 ta ka .byte na va (.int (0 : Int32))) (P2 : Arv Z h0 tb kb .byte nb wb (.int (0 : Int32))) (OLD : Old Z n0 h0) (fa : own_fit va na) (fb : own_fit wb nb) :
    MetFree l (⟨"java/lang/StringLatin1", "equals", "([B[B)Z"⟩ : MethodName) (head1 (Jvm.Cond.code (⟨"java/lang/StringLatin1", "equals", "([B[B)Z"⟩ : MethodName) jdk_43_method_13_code 3 (some .boolean) :: ws) ({ frames := 0, cells := 0, slots := 0, locals := 0 } : Room)) (fun a U => a = #[(.ref ta), (.ref tb)] ∧ Z.Warmed39 U.vm ∧ U.heap = h0) (fun _ _ _ _ _ => True) (fun _ U o U' => ∃ v L, o = .returned v ∧ Q_rmLeq Z ta ka na va tb kb nb wb h0 n0 v U'.heap L ∧ FrameEnd U o U' L ({ frames := 0, cells := 0, slots := 0, locals := 0 } : Room).cells ({ frames := 0, cells := 0, slots := 0, locals := 0 } : Room).slots) := by
  refine MetFree.of_bodySF (plainFor_of_name pn_java_lang_StringLatin1) hisR ?_
  intro p e s m args below meth c s₁ Bd hml0 hP hK
  obtain ⟨rfl, hZ, hh⟩ := hP
  have hx := Bd.exec
  have hby := Bd.bytes
  have hml : c.maxLocals = 3 := hml0
  have hown : s.vm.findClass "java/lang/StringLatin1" = some m.cls := findClass_of_methodNamed Bd.named
  have hnm := (name_of_methodNamed Bd.named Bd.method).1
  have X0 : Stand p l e ({ frames := 0, cells := 0, slots := 0, locals := 0 } : Room) s m #[(.ref ta), (.ref tb)] below meth c s₁ [] 0 0 := Stand.of_body Bd
  have e0 : s₁.heap = h0 := by rw [← hh, Bd.state]; rfl
  have N0 := Fr.nil n0
  have pre0 : ∀ t, Steps p.tables e below (s₁.setTop (mkF m 0 #[.val (.ref ta), .val (.ref tb), .unset] [])) t → Steps p.tables e below (s₁.setTop (entryFrame m #[(.ref ta), (.ref tb)] 3)) t := fun t k => castTop (ef_rmLeq m ta tb) k
  have oz := OLD.1
  have lt_ta : ta < h0.size := P1.lt
  have lt_tb : tb < h0.size := P2.lt
  refine own_go (B := s₁.setTop (mkF m 0 #[.val (.ref ta), .val (.ref tb), .unset] [])) pre0 ?_
  show ∃ t o, Steps p.tables e below (s₁.setTop (mkF m 0 #[.val (.ref ta), .val (.ref tb), .unset] [])) t ∧ _
  refine own_go (fun _ => XS.aloadN X0.here hx rfl (hb hby d37_0) rfl rfl) ?_
  obtain ⟨cl3, Ar3, q3, S3, N3, H3, G3⟩ := id P1
  have ln3 : cl3.slots.size.toInt32 = na := len_of S3 N3
  have al3 := X0.arraylength hx (by rw [e0]; exact Ar3.1) (State.isArrayOf_alike hZ.alike Ar3.2.1) (g := (mkF m 1 #[.val (.ref ta), .val (.ref tb), .unset] [(.ref ta)])) rfl rfl (hb hby d37_1)
  rw [ln3] at al3
  refine own_go al3 ?_
  refine own_go (fun _ => XS.aloadN X0.here hx rfl (hb hby d37_2) rfl rfl) ?_
  obtain ⟨cl4, Ar4, q4, S4, N4, H4, G4⟩ := id P2
  have ln4 : cl4.slots.size.toInt32 = nb := len_of S4 N4
  have al4 := X0.arraylength hx (by rw [e0]; exact Ar4.1) (State.isArrayOf_alike hZ.alike Ar4.2.1) (g := (mkF m 3 #[.val (.ref ta), .val (.ref tb), .unset] [(.ref tb), (.int na)])) rfl rfl (hb hby d37_3)
  rw [ln4] at al4
  refine own_go al4 ?_
  show ∃ t o, Steps p.tables e below (s₁.setTop (mkF m 4 #[.val (.ref ta), .val (.ref tb), .unset] [(.int nb), (.int na)])) t ∧ _
  by_cases hc5 : na = nb
  · refine own_go (fun _ => XS.icmpNo X0.here hx rfl (hb hby d37_4) rfl (teq hc5).2) ?_
    refine own_nameP (fun P eP => ?_)
    have loop9 : ∀ (r : Nat) (ii : Int32) (hI : own_eqi va wb ii) (hr : (va.length - ii.toInt.toNat) = r), ∃ t o, Steps p.tables e below (s₁.setTop (mkF m 9 #[.val (.ref ta), .val (.ref tb), .val (.int ii)] [])) t ∧ P t o := by
      intro r
      induction r using Nat.strongRecOn with
      | _ r ih9 =>
        intro ii hI hr
        show ∃ t o, Steps p.tables e below (s₁.setTop (mkF m 9 #[.val (.ref ta), .val (.ref tb), .val (.int ii)] [])) t ∧ _
        refine own_go (fun _ => XS.iloadN X0.here hx rfl (hb hby d37_9) rfl) ?_
        refine own_go (fun _ => XS.aloadN X0.here hx rfl (hb hby d37_10) rfl rfl) ?_
        obtain ⟨cl6, Ar6, q6, S6, N6, H6, G6⟩ := id P1
        have ln6 : cl6.slots.size.toInt32 = na := len_of S6 N6
        have al6 := X0.arraylength hx (by rw [e0]; exact Ar6.1) (State.isArrayOf_alike hZ.alike Ar6.2.1) (g := (mkF m 11 #[.val (.ref ta), .val (.ref tb), .val (.int ii)] [(.ref ta), (.int ii)])) rfl rfl (hb hby d37_11)
        rw [ln6] at al6
        refine own_go al6 ?_
        show ∃ t o, Steps p.tables e below (s₁.setTop (mkF m 12 #[.val (.ref ta), .val (.ref tb), .val (.int ii)] [(.int na), (.int ii)])) t ∧ _
        by_cases hc7 : ii < na
        · refine own_go (fun _ => XS.icmpNo X0.here hx rfl (hb hby d37_12) rfl (tlt hc7).2.1) ?_
          have hin := own_eqin fa hI hc7
          have hinb : ¬ ii < (0 : Int32) ∧ ii < nb := hc5 ▸ hin
          obtain ⟨xa, hxa⟩ := own_arvI P1 hin
          obtain ⟨xb, hxb⟩ := own_arvI P2 hinb
          refine own_go (fun _ => XS.aloadN X0.here hx rfl (hb hby d37_15) rfl rfl) ?_
          refine own_go (fun _ => XS.iloadN X0.here hx rfl (hb hby d37_16) rfl) ?_
          obtain ⟨cl8, Ar8, q8, S8, N8, H8, G8⟩ := id P1
          have hin8 : ¬ (ii < 0 ∨ cl8.slots.size ≤ (ii).toNatClampNeg) := inb_of S8 hin
          have hat8 : cl8.slots[(ii).toNatClampNeg]? = some (.int xa) := Has.at H8 hin8 hxa
          refine own_go (fun _ => X0.baloadBytes hx (j := ii) (v := (.int xa)) (by rw [e0]; exact Ar8.1) (State.isArrayOf_alike hZ.alike Ar8.2.1) Ar8.2.2 hin8 hat8 (g := (mkF m 17 #[.val (.ref ta), .val (.ref tb), .val (.int ii)] [(.int ii), (.ref ta)])) rfl rfl (hb hby d37_17) _) ?_
          refine own_go (fun _ => XS.aloadN X0.here hx rfl (hb hby d37_18) rfl rfl) ?_
          refine own_go (fun _ => XS.iloadN X0.here hx rfl (hb hby d37_19) rfl) ?_
          obtain ⟨cl9, Ar9, q9, S9, N9, H9, G9⟩ := id P2
          have hin9 : ¬ (ii < 0 ∨ cl9.slots.size ≤ (ii).toNatClampNeg) := inb_of S9 hinb
          have hat9 : cl9.slots[(ii).toNatClampNeg]? = some (.int xb) := Has.at H9 hin9 hxb
          refine own_go (fun _ => X0.baloadBytes hx (j := ii) (v := (.int xb)) (by rw [e0]; exact Ar9.1) (State.isArrayOf_alike hZ.alike Ar9.2.1) Ar9.2.2 hin9 hat9 (g := (mkF m 20 #[.val (.ref ta), .val (.ref tb), .val (.int ii)] [(.int ii), (.ref tb), (.int xa)])) rfl rfl (hb hby d37_20) _) ?_
          show ∃ t o, Steps p.tables e below (s₁.setTop (mkF m 21 #[.val (.ref ta), .val (.ref tb), .val (.int ii)] [(.int xb), (.int xa)])) t ∧ _
          by_cases hc10 : xa = xb
          · refine own_go (fun _ => XS.icmpYes X0.here hx rfl (pc0 := 21) (pc' := 26) rfl (hb hby d37_21) rfl (teq hc10).1 (by decide) (by decide)) ?_
            refine own_go (fun _ => XS.iinc X0.here hx rfl (hb hby d37_26) rfl (l' := #[.val (.ref ta), .val (.ref tb), .val (.int (ii + (1 : Int32)))]) rfl) ?_
            refine own_go (fun _ => XS.goto X0.here hx rfl (pc0 := 29) (pc' := 9) rfl (hb hby d37_29) (by decide) (by decide)) ?_
            show ∃ t o, Steps p.tables e below (s₁.setTop (mkF m 9 #[.val (.ref ta), .val (.ref tb), .val (.int (ii + (1 : Int32)))] [])) t ∧ _
            exact ih9 _ (by have q := own_eqm fa hI.1 hc7; omega) (ii + (1 : Int32)) (own_eqiS fa hI hc7 hxa hxb hc10) rfl
          · refine own_go (fun _ => XS.icmpNo X0.here hx rfl (hb hby d37_21) rfl (feq hc10).1) ?_
            refine own_go (fun _ => XS.iconst X0.here hx rfl (hb hby d37_24)) ?_
            show ∃ t o, Steps p.tables e below (s₁.setTop (mkF m 25 #[.val (.ref ta), .val (.ref tb), .val (.int ii)] [(.int (0 : Int32))])) t ∧ _
            subst eP
            obtain ⟨fs, hr, hrun, hended, hW, hsame⟩ := X0.leave (v := some (.int (0 : Int32))) (fun h => by rw [Bd.returns] at h; cases h)
            refine ⟨_, _, ?_, hrun, hended, _, _, rfl, ?_, ⟨_, rfl⟩, hW, hsame.mono (by decide) (by decide)⟩
            · exact retN X0 hx (t := .boolean) Bd.returns (by simp) (hb hby d37_25) hr
            · show Q_rmLeq Z _ _ _ _ _ _ _ _ h0 n0 _ s₁.heap _
              rw [e0]
              exact ⟨(0 : Int32), rfl, N0, rfl, (Or.inr ⟨rfl, own_eqX hxa hxb hc10⟩)⟩
        · refine own_go (fun _ => XS.icmpYes X0.here hx rfl (pc0 := 12) (pc' := 32) rfl (hb hby d37_12) rfl (flt hc7).2.1 (by decide) (by decide)) ?_
          refine own_go (fun _ => XS.iconst X0.here hx rfl (hb hby d37_32)) ?_
          show ∃ t o, Steps p.tables e below (s₁.setTop (mkF m 33 #[.val (.ref ta), .val (.ref tb), .val (.int ii)] [(.int (1 : Int32))])) t ∧ _
          subst eP
          obtain ⟨fs, hr, hrun, hended, hW, hsame⟩ := X0.leave (v := some (.int (1 : Int32))) (fun h => by rw [Bd.returns] at h; cases h)
          refine ⟨_, _, ?_, hrun, hended, _, _, rfl, ?_, ⟨_, rfl⟩, hW, hsame.mono (by decide) (by decide)⟩
          · exact retN X0 hx (t := .boolean) Bd.returns (by simp) (hb hby d37_33) hr
          · show Q_rmLeq Z _ _ _ _ _ _ _ _ h0 n0 _ s₁.heap _
            rw [e0]
            exact ⟨(1 : Int32), rfl, N0, rfl, (Or.inl ⟨rfl, own_eqY fa fb hc5 hI hc7⟩)⟩
    refine own_go (fun _ => XS.iconst X0.here hx rfl (hb hby d37_7)) ?_
    refine own_go (fun _ => XS.istoreN X0.here hx rfl (hb hby d37_8) rfl (l' := #[.val (.ref ta), .val (.ref tb), .val (.int (0 : Int32))]) rfl) ?_
    show ∃ t o, Steps p.tables e below (s₁.setTop (mkF m 9 #[.val (.ref ta), .val (.ref tb), .val (.int (0 : Int32))] [])) t ∧ _
    exact loop9 _ (0 : Int32) (own_eqi0 va wb) rfl
  · refine own_go (fun _ => XS.icmpYes X0.here hx rfl (pc0 := 4) (pc' := 34) rfl (hb hby d37_4) rfl (feq hc5).2 (by decide) (by decide)) ?_
    refine own_go (fun _ => XS.iconst X0.here hx rfl (hb hby d37_34)) ?_
    show ∃ t o, Steps p.tables e below (s₁.setTop (mkF m 35 #[.val (.ref ta), .val (.ref tb), .unset] [(.int (0 : Int32))])) t ∧ _
    obtain ⟨fs, hr, hrun, hended, hW, hsame⟩ := X0.leave (v := some (.int (0 : Int32))) (fun h => by rw [Bd.returns] at h; cases h)
    refine ⟨_, _, ?_, hrun, hended, _, _, rfl, ?_, ⟨_, rfl⟩, hW, hsame.mono (by decide) (by decide)⟩
    · exact retN X0 hx (t := .boolean) Bd.returns (by simp) (hb hby d37_35) hr
    · show Q_rmLeq Z _ _ _ _ _ _ _ _ h0 n0 _ s₁.heap _
      rw [e0]
      exact ⟨(0 : Int32), rfl, N0, rfl, (Or.inr ⟨rfl, own_eqN fa fb hc5⟩)⟩
theorem ef_rmEqT (m : MethodId) (x0 : Nat) (x1 : Nat) : entryFrame m #[(.ref x0), (.ref x1)] 3 = mkF m 0 #[.val (.ref x0), .val (.ref x1), .unset] [] := by first | (simp [entryFrame, mkF, argsToLocals, Value.category]; done) | rfl
theorem d35_0 : decode jdk_42_method_66_code 0 = .ok (.aload_n 0, 1) := by decide +kernel
theorem d35_1 : decode jdk_42_method_66_code 1 = .ok (.aload_n 1, 1) := by decide +kernel
theorem d35_2 : decode jdk_42_method_66_code 2 = .ok (.if_acmp .ne 5, 3) := by decide +kernel
theorem d35_5 : decode jdk_42_method_66_code 5 = .ok (.iconst 1, 1) := by decide +kernel
theorem d35_6 : decode jdk_42_method_66_code 6 = .ok (.ireturn, 1) := by decide +kernel
theorem d35_7 : decode jdk_42_method_66_code 7 = .ok (.aload_n 1, 1) := by decide +kernel
theorem d35_8 : decode jdk_42_method_66_code 8 = .ok (.instanceof 10, 3) := by decide +kernel
theorem d35_11 : decode jdk_42_method_66_code 11 = .ok (.ifCond .eq 43, 3) := by decide +kernel
theorem d35_14 : decode jdk_42_method_66_code 14 = .ok (.aload_n 1, 1) := by decide +kernel
theorem d35_15 : decode jdk_42_method_66_code 15 = .ok (.checkcast 10, 3) := by decide +kernel
theorem d35_18 : decode jdk_42_method_66_code 18 = .ok (.astore_n 2, 1) := by decide +kernel
theorem d35_19 : decode jdk_42_method_66_code 19 = .ok (.getstatic 38, 3) := by decide +kernel
theorem d35_22 : decode jdk_42_method_66_code 22 = .ok (.ifCond .eq 14, 3) := by decide +kernel
theorem d35_25 : decode jdk_42_method_66_code 25 = .ok (.aload_n 0, 1) := by decide +kernel
theorem d35_26 : decode jdk_42_method_66_code 26 = .ok (.getfield 15, 3) := by decide +kernel
theorem d35_29 : decode jdk_42_method_66_code 29 = .ok (.aload_n 2, 1) := by decide +kernel
theorem d35_30 : decode jdk_42_method_66_code 30 = .ok (.getfield 15, 3) := by decide +kernel
theorem d35_33 : decode jdk_42_method_66_code 33 = .ok (.if_icmp .ne 21, 3) := by decide +kernel
theorem d35_36 : decode jdk_42_method_66_code 36 = .ok (.aload_n 0, 1) := by decide +kernel
theorem d35_37 : decode jdk_42_method_66_code 37 = .ok (.getfield 9, 3) := by decide +kernel
theorem d35_40 : decode jdk_42_method_66_code 40 = .ok (.aload_n 2, 1) := by decide +kernel
theorem d35_41 : decode jdk_42_method_66_code 41 = .ok (.getfield 9, 3) := by decide +kernel
theorem d35_44 : decode jdk_42_method_66_code 44 = .ok (.invokestatic 541, 3) := by decide +kernel
theorem pd__28_5bB_5bB_29Z : parseMethodDescriptor "([B[B)Z" = some ⟨[(.array .byte), (.array .byte)], some .boolean⟩ := by decide +kernel
theorem d35_47 : decode jdk_42_method_66_code 47 = .ok (.ifCond .eq 7, 3) := by decide +kernel
theorem d35_50 : decode jdk_42_method_66_code 50 = .ok (.iconst 1, 1) := by decide +kernel
theorem d35_51 : decode jdk_42_method_66_code 51 = .ok (.goto 4, 3) := by decide +kernel
theorem d35_55 : decode jdk_42_method_66_code 55 = .ok (.ireturn, 1) := by decide +kernel
def Q_rmEqT (Z : State) (s1 : Nat) (s2 : Nat) (ta : Nat) (ka : ClassId) (na : Int32) (va : List Value) (tb : Nat) (kb : ClassId) (nb : Int32) (wb : List Value) (cd : Int32) (zc : Int32) (h0 : Heap) (n0 : Nat) (v : Option Value) (h : Heap) (L : List Loc) : Prop := v = some (.int (1 : Int32)) ∧ Fr n0 L ∧ h = h0
set_option maxRecDepth 65536 in
set_option maxHeartbeats 40000000 in
theorem rmEqT (l : Launch) (Z : State) (a0 : Array Value) (hw : ∀ d ∈ tables_1, d.before a0 Z = true) (ws : List Jvm.Cond) (s1 : Nat) (s2 : Nat) (ta : Nat) (ka : ClassId) (na : Int32) (va : List Value) (tb : Nat) (kb : ClassId) (nb : Int32) (wb : List Value) (cd : Int32) (zc : Int32) (h0 : Heap) (n0 : Nat) (Z0 : n0 ≤ h0.size) (P1 : Exa Z h0 s1 "java/lang/String") (P2 : Fld Z h0 s1 "java/lang/String" "value" "[B" (.ref ta)) (P3 : Fld Z h0 s1 "java/lang/String" "coder" "B" (.int cd)) (P4 : Arv Z h0 ta ka .byte na va (.int (0 : Int32))) (P5 : Exa Z h0 s2 "java/lang/String") (P6 : Fld Z h0 s2 "java/lang/String" "value" "[B" (.ref tb)) (P7 : Fld Z h0 s2 "java/lang/String" "coder" "B" (.int cd)) (P8 : Arv Z h0 tb kb .byte nb wb (.int (0 : Int32))) (OLD : Old Z n0 h0) (P9 : Sta Z Z.heap "java/lang/String" "COMPACT_STRINGS" "Z" (.int zc)) (hzc : ¬ (zc = (0 : Int32))) (fa : own_fit va na) (fb : own_fit wb nb) (heq : va = wb) :
    MetFree l (⟨"java/lang/String", "equals", "(Ljava/lang/Object;)Z"⟩ : MethodName) (head1 (Jvm.Cond.code (⟨"java/lang/String", "equals", "(Ljava/lang/Object;)Z"⟩ : MethodName) jdk_42_method_66_code 3 (some .boolean) :: ws) ({ frames := 1, cells := 0, slots := 0, locals := 14 } : Room)) (fun a U => a = #[(.ref s1), (.ref s2)] ∧ Z.Warmed39 U.vm ∧ U.heap = h0) (fun _ _ _ _ _ => True) (fun _ U o U' => ∃ v L, o = .returned v ∧ Q_rmEqT Z s1 s2 ta ka na va tb kb nb wb cd zc h0 n0 v U'.heap L ∧ FrameEnd U o U' L ({ frames := 1, cells := 0, slots := 0, locals := 14 } : Room).cells ({ frames := 1, cells := 0, slots := 0, locals := 14 } : Room).slots) := by
  refine MetFree.of_bodySF (plainFor_of_name pn_java_lang_String) hisR ?_
  intro p e s m args below meth c s₁ Bd hml0 hP hK
  obtain ⟨rfl, hZ, hh⟩ := hP
  have hx := Bd.exec
  have hby := Bd.bytes
  have hml : c.maxLocals = 3 := hml0
  have hown : s.vm.findClass "java/lang/String" = some m.cls := findClass_of_methodNamed Bd.named
  have hnm := (name_of_methodNamed Bd.named Bd.method).1
  have X0 : Stand p l e ({ frames := 1, cells := 0, slots := 0, locals := 14 } : Room) s m #[(.ref s1), (.ref s2)] below meth c s₁ [] 0 0 := Stand.of_body Bd
  have e0 : s₁.heap = h0 := by rw [← hh, Bd.state]; rfl
  have N0 := Fr.nil n0
  have pre0 : ∀ t, Steps p.tables e below (s₁.setTop (mkF m 0 #[.val (.ref s1), .val (.ref s2), .unset] [])) t → Steps p.tables e below (s₁.setTop (entryFrame m #[(.ref s1), (.ref s2)] 3)) t := fun t k => castTop (ef_rmEqT m s1 s2) k
  have w_201 := hw _ (List.mem_of_getElem? (i := 201) rfl)
  have w_204 := hw _ (List.mem_of_getElem? (i := 204) rfl)
  have w_205 := hw _ (List.mem_of_getElem? (i := 205) rfl)
  have w_26 := hw _ (List.mem_of_getElem? (i := 26) rfl)
  have w_28 := hw _ (List.mem_of_getElem? (i := 28) rfl)
  have oz := OLD.1
  have lt_s1 : s1 < h0.size := P1.lt
  have lt_s2 : s2 < h0.size := P5.lt
  have lt_ta : ta < h0.size := P4.lt
  have lt_tb : tb < h0.size := P8.lt
  refine own_go (B := s₁.setTop (mkF m 0 #[.val (.ref s1), .val (.ref s2), .unset] [])) pre0 ?_
  show ∃ t o, Steps p.tables e below (s₁.setTop (mkF m 0 #[.val (.ref s1), .val (.ref s2), .unset] [])) t ∧ _
  refine own_go (fun _ => XS.aloadN X0.here hx rfl (hb hby d35_0) rfl rfl) ?_
  refine own_go (fun _ => XS.aloadN X0.here hx rfl (hb hby d35_1) rfl rfl) ?_
  show ∃ t o, Steps p.tables e below (s₁.setTop (mkF m 2 #[.val (.ref s1), .val (.ref s2), .unset] [(.ref s2), (.ref s1)])) t ∧ _
  by_cases hc10 : s1 = s2
  · refine own_go (fun _ => Jvm.RoadKit.acmp (g := (mkF m 2 #[.val (.ref s1), .val (.ref s2), .unset] [(.ref s2), (.ref s1)])) X0 hx rfl rfl rfl (pc0 := 2) (pc' := 5) (same := true) rfl (hb hby d35_2) rfl (decide_eq_true (congrArg Value.ref hc10)) (by decide) (by decide)) ?_
    refine own_go (fun _ => XS.iconst X0.here hx rfl (hb hby d35_5)) ?_
    show ∃ t o, Steps p.tables e below (s₁.setTop (mkF m 6 #[.val (.ref s1), .val (.ref s2), .unset] [(.int (1 : Int32))])) t ∧ _
    obtain ⟨fs, hr, hrun, hended, hW, hsame⟩ := X0.leave (v := some (.int (1 : Int32))) (fun h => by rw [Bd.returns] at h; cases h)
    refine ⟨_, _, ?_, hrun, hended, _, _, rfl, ?_, ⟨_, rfl⟩, hW, hsame.mono (by decide) (by decide)⟩
    · exact retN X0 hx (t := .boolean) Bd.returns (by simp) (hb hby d35_6) hr
    · show Q_rmEqT Z _ _ _ _ _ _ _ _ _ _ _ _ h0 n0 _ s₁.heap _
      rw [e0]
      exact ⟨rfl, N0, rfl⟩
  · refine own_go (fun _ => Jvm.RoadKit.acmp (g := (mkF m 2 #[.val (.ref s1), .val (.ref s2), .unset] [(.ref s2), (.ref s1)])) X0 hx rfl rfl rfl (pc0 := 2) (pc' := 7) (same := false) rfl (hb hby d35_2) rfl (decide_eq_false fun q => hc10 (Value.ref.inj q)) (by decide) (by decide)) ?_
    refine own_go (fun _ => XS.aloadN X0.here hx rfl (hb hby d35_7) rfl rfl) ?_
    obtain ⟨T11, X11, e11, st11⟩ := instY X0 hx hZ hown w_201 e0 (Ins.self P5) (g := (mkF m 8 #[.val (.ref s1), .val (.ref s2), .unset] [(.ref s2)])) rfl rfl (hb hby d35_8)
    refine own_go st11 ?_
    show ∃ t o, Steps p.tables e below (T11.setTop (mkF m 11 #[.val (.ref s1), .val (.ref s2), .unset] [(.int (1 : Int32))])) t ∧ _
    refine own_go (fun _ => XS.ifNo X11.here hx rfl (hb hby d35_11) rfl ((if0 _ _).trans (feq (by decide : ¬ ((1 : Int32) = (0 : Int32)))).1)) ?_
    refine own_go (fun _ => XS.aloadN X11.here hx rfl (hb hby d35_14) rfl rfl) ?_
    obtain ⟨T12, X12, e12, st12⟩ := castY X11 hx hZ hown w_201 e11 (Ins.self P5) (g := (mkF m 15 #[.val (.ref s1), .val (.ref s2), .unset] [(.ref s2)])) rfl rfl (hb hby d35_15)
    refine own_go st12 ?_
    refine own_go (fun _ => XS.astoreN X12.here hx rfl (hb hby d35_18) rfl rfl (l' := #[.val (.ref s1), .val (.ref s2), .val (.ref s2)]) rfl) ?_
    obtain ⟨T13, X13, e13, st13⟩ := getS2 X12 hx hZ hown (host := "") (Or.inl (hw _ (List.mem_of_getElem? (i := 14) rfl))) Via.refl e12 (Sta.ext OLD.2 P9) (g := (mkF m 19 #[.val (.ref s1), .val (.ref s2), .val (.ref s2)] [])) rfl (hb hby d35_19)
    refine own_go st13 ?_
    show ∃ t o, Steps p.tables e below (T13.setTop (mkF m 22 #[.val (.ref s1), .val (.ref s2), .val (.ref s2)] [(.int zc)])) t ∧ _
    refine own_go (fun _ => XS.ifNo X13.here hx rfl (hb hby d35_22) rfl ((if0 _ _).trans (feq hzc).1)) ?_
    refine own_go (fun _ => XS.aloadN X13.here hx rfl (hb hby d35_25) rfl rfl) ?_
    obtain ⟨T14, X14, e14, st14⟩ := getF X13 hx hZ hown (host := "") (Or.inl w_26) Via.refl e13 P3 (g := (mkF m 26 #[.val (.ref s1), .val (.ref s2), .val (.ref s2)] [(.ref s1)])) rfl rfl (hb hby d35_26)
    refine own_go st14 ?_
    refine own_go (fun _ => XS.aloadN X14.here hx rfl (hb hby d35_29) rfl rfl) ?_
    obtain ⟨T15, X15, e15, st15⟩ := getF X14 hx hZ hown (host := "") (Or.inl w_26) Via.refl e14 P7 (g := (mkF m 30 #[.val (.ref s1), .val (.ref s2), .val (.ref s2)] [(.ref s2), (.int cd)])) rfl rfl (hb hby d35_30)
    refine own_go st15 ?_
    show ∃ t o, Steps p.tables e below (T15.setTop (mkF m 33 #[.val (.ref s1), .val (.ref s2), .val (.ref s2)] [(.int cd), (.int cd)])) t ∧ _
    have hd16 : cd = cd := rfl
    refine own_go (fun _ => XS.icmpNo X15.here hx rfl (hb hby d35_33) rfl (teq hd16).2) ?_
    refine own_go (fun _ => XS.aloadN X15.here hx rfl (hb hby d35_36) rfl rfl) ?_
    obtain ⟨T17, X17, e17, st17⟩ := getF X15 hx hZ hown (host := "") (Or.inl w_28) Via.refl e15 P2 (g := (mkF m 37 #[.val (.ref s1), .val (.ref s2), .val (.ref s2)] [(.ref s1)])) rfl rfl (hb hby d35_37)
    refine own_go st17 ?_
    refine own_go (fun _ => XS.aloadN X17.here hx rfl (hb hby d35_40) rfl rfl) ?_
    obtain ⟨T18, X18, e18, st18⟩ := getF X17 hx hZ hown (host := "") (Or.inl w_28) Via.refl e17 P6 (g := (mkF m 41 #[.val (.ref s1), .val (.ref s2), .val (.ref s2)] [(.ref s2), (.ref ta)])) rfl rfl (hb hby d35_41)
    refine own_go st18 ?_
    show ∃ t o, Steps p.tables e below (T18.setTop (mkF m 44 #[.val (.ref s1), .val (.ref s2), .val (.ref s2)] [(.ref tb), (.ref ta)])) t ∧ _
    obtain ⟨_, _, ⟨T19, L19, k19, n19⟩, -, X19, ⟨Lc19, hQ19, l19, y19, z19⟩, st19⟩ := Jvm.LawKit.callS X18 hx (y := (⟨"java/lang/StringLatin1", "equals", "([B[B)Z"⟩ : MethodName)) hown (mvT hZ (hw _ (List.mem_of_getElem? (i := 202) rfl))) (mvT hZ (hw _ (List.mem_of_getElem? (i := 203) rfl))) (mvT hZ w_204) (mvT hZ w_205) (by decide) (backOf (W := 0) (rmLeq l Z a0 hw [] ta ka na va tb kb nb wb h0 n0 Z0 P4 P8 OLD fa fb) hZ w_205 w_204 (by decide) (by decide)) (g := (mkF m 44 #[.val (.ref s1), .val (.ref s2), .val (.ref s2)] [(.ref tb), (.ref ta)])) rfl (by rw [hml]; rfl) (argsL := [(.ref ta), (.ref tb)]) (rest := []) (lenOf pd__28_5bB_5bB_29Z rfl) rfl (by show 2 * 0 + _ ≤ _; exact Nat.le_of_eq rfl) (hb hby d35_44) (fun _ _ => ⟨rfl, e18, (by decide : 0 + 0 ≤ _), (by decide : 0 + 0 ≤ _)⟩)
    dsimp only [Pt.U, Pt.locs, Pt.cells, Pt.slots] at X19 l19 y19 z19 st19 hQ19
    rw [l19, y19, z19] at X19
    obtain ⟨r1_19, rfl, Nq19, e19, H19_0⟩ := hQ19
    have N19 := Fr.app N0 Nq19
    refine own_go st19 ?_
    show ∃ t o, Steps p.tables e below (T19.setTop (mkF m 47 #[.val (.ref s1), .val (.ref s2), .val (.ref s2)] [(.int r1_19)])) t ∧ _
    have hr1 : r1_19 = (1 : Int32) := by
      rcases H19_0 with ⟨q, -⟩ | ⟨-, q⟩
      · exact q
      · exact absurd heq q
    rw [hr1]
    show ∃ t o, Steps p.tables e below (T19.setTop (mkF m 47 #[.val (.ref s1), .val (.ref s2), .val (.ref s2)] [(.int (1 : Int32))])) t ∧ _
    refine own_go (fun _ => XS.ifNo X19.here hx rfl (hb hby d35_47) rfl ((if0 _ _).trans (feq (by decide : ¬ ((1 : Int32) = (0 : Int32)))).1)) ?_
    refine own_go (fun _ => XS.iconst X19.here hx rfl (hb hby d35_50)) ?_
    refine own_go (fun _ => XS.goto X19.here hx rfl (pc0 := 51) (pc' := 55) rfl (hb hby d35_51) (by decide) (by decide)) ?_
    show ∃ t o, Steps p.tables e below (T19.setTop (mkF m 55 #[.val (.ref s1), .val (.ref s2), .val (.ref s2)] [(.int (1 : Int32))])) t ∧ _
    obtain ⟨fs, hr, hrun, hended, hW, hsame⟩ := X19.leave (v := some (.int (1 : Int32))) (fun h => by rw [Bd.returns] at h; cases h)
    refine ⟨_, _, ?_, hrun, hended, _, _, rfl, ?_, ⟨_, rfl⟩, hW, hsame.mono (by decide) (by decide)⟩
    · exact retN X19 hx (t := .boolean) Bd.returns (by simp) (hb hby d35_55) hr
    · show Q_rmEqT Z _ _ _ _ _ _ _ _ _ _ _ _ h0 n0 _ T19.heap _
      rw [e19]
      exact ⟨rfl, N19, rfl⟩
theorem ef_rmS4 (m : MethodId) (x0 : Nat) (x1 : Nat) (x2 : Int32) (x3 : Int32) : entryFrame m #[(.ref x0), (.ref x1), (.int x2), (.int x3), .null] 6 = mkF m 0 #[.val (.ref x0), .val (.ref x1), .val (.int x2), .val (.int x3), .val .null, .unset] [] := by first | (simp [entryFrame, mkF, argsToLocals, Value.category]; done) | rfl
theorem d2_8 : decode jdk_42_method_149_code 8 = .ok (.aload_n 0, 1) := by decide +kernel
theorem d2_9 : decode jdk_42_method_149_code 9 = .ok (.ldc 7, 2) := by decide +kernel
theorem d2_11 : decode jdk_42_method_149_code 11 = .ok (.getfield 9, 3) := by decide +kernel
theorem d2_14 : decode jdk_42_method_149_code 14 = .ok (.putfield 9, 3) := by decide +kernel
theorem d2_17 : decode jdk_42_method_149_code 17 = .ok (.aload_n 0, 1) := by decide +kernel
theorem d2_18 : decode jdk_42_method_149_code 18 = .ok (.ldc 7, 2) := by decide +kernel
theorem d2_20 : decode jdk_42_method_149_code 20 = .ok (.getfield 15, 3) := by decide +kernel
theorem d2_23 : decode jdk_42_method_149_code 23 = .ok (.putfield 15, 3) := by decide +kernel
theorem d2_26 : decode jdk_42_method_149_code 26 = .ok (.return_, 1) := by decide +kernel
def Q_rmS4 (Z : State) (a1 : Nat) (ca : Nat) (h0 : Heap) (n0 : Nat) (v : Option Value) (h : Heap) (L : List Loc) : Prop := ∃ (tb : Nat), ∃ (kb : ClassId), v = none ∧ Fr n0 L ∧ Keep h0 h [a1] ∧ Exa Z h a1 "java/lang/String" ∧ Fld Z h a1 "java/lang/String" "value" "[B" (.ref tb) ∧ Fld Z h a1 "java/lang/String" "coder" "B" (.int (0 : Int32)) ∧ Arv Z h tb kb .byte (0 : Int32) [] (.int (0 : Int32))
set_option maxRecDepth 65536 in
set_option maxHeartbeats 40000000 in
theorem rmS4 (l : Launch) (Z : State) (a0 : Array Value) (hw : ∀ d ∈ tables_1, d.before a0 Z = true) (ws : List Jvm.Cond) (a1 : Nat) (ca : Nat) (h0 : Heap) (n0 : Nat) (Z0 : n0 ≤ h0.size) (P1 : Exa Z h0 a1 "java/lang/String") (P2 : Fld Z h0 a1 "java/lang/String" "value" "[B" .null) (P3 : Fld Z h0 a1 "java/lang/String" "coder" "B" (.int (0 : Int32))) (OLD : Old Z n0 h0) (ga : n0 ≤ a1) (hEL : EW Z a0 own_EL) :
    MetFree l (⟨"java/lang/String", "<init>", "([CIILjava/lang/Void;)V"⟩ : MethodName) (head1 (Jvm.Cond.code (⟨"java/lang/String", "<init>", "([CIILjava/lang/Void;)V"⟩ : MethodName) jdk_42_method_149_code 6 none :: ws) ({ frames := 1, cells := 4, slots := 8, locals := 12 } : Room)) (fun a U => a = #[(.ref a1), (.ref ca), (.int (0 : Int32)), (.int (0 : Int32)), .null] ∧ Z.Warmed39 U.vm ∧ U.heap = h0 ∧ CHv Z own_EL U.vm h0) (fun _ _ _ _ _ => True) (fun _ U o U' => ∃ v L, o = .returned v ∧ Q_rmS4 Z a1 ca h0 n0 v U'.heap L ∧ CHr Z own_EL U.vm U.heap U'.vm U'.heap ∧ ReturnedEndW U o U' L ({ frames := 1, cells := 4, slots := 8, locals := 12 } : Room).cells ({ frames := 1, cells := 4, slots := 8, locals := 12 } : Room).slots) := by
  refine MetFree.of_bodySF (plainFor_of_name pn_java_lang_String) hisR ?_
  intro p e s m args below meth c s₁ Bd hml0 hP hK
  obtain ⟨rfl, hZ, hh, hCH⟩ := hP
  have hx := Bd.exec
  have hby := Bd.bytes
  have hml : c.maxLocals = 6 := hml0
  have hown : s.vm.findClass "java/lang/String" = some m.cls := findClass_of_methodNamed Bd.named
  have hnm := (name_of_methodNamed Bd.named Bd.method).1
  have X0 : Stand p l e ({ frames := 1, cells := 4, slots := 8, locals := 12 } : Room) (s.setVm s.vm) m #[(.ref a1), (.ref ca), (.int (0 : Int32)), (.int (0 : Int32)), .null] below meth c s₁ [] 0 0 := Stand.of_body Bd
  have e0 : s₁.heap = h0 := by rw [← hh, Bd.state]; rfl
  have N0 := Fr.nil n0
  have pre0 : ∀ t, Steps p.tables e below (s₁.setTop (mkF m 0 #[.val (.ref a1), .val (.ref ca), .val (.int (0 : Int32)), .val (.int (0 : Int32)), .val .null, .unset] [])) t → Steps p.tables e below (s₁.setTop (entryFrame m #[(.ref a1), (.ref ca), (.int (0 : Int32)), (.int (0 : Int32)), .null] 6)) t := fun t k => castTop (ef_rmS4 m a1 ca (0 : Int32) (0 : Int32)) k
  have hZ : Z.Warmed39 (s.setVm s.vm).vm := hZ
  have hown : (s.setVm s.vm).vm.findClass "java/lang/String" = some m.cls := hown
  have hS : s.Since s.vm 0 := (State.WarmedH.refl s).since 0
  have CH0 : CHr Z own_EL s.vm h0 s.vm h0 := CHr.refl hCH
  have wS : ∀ a ∈ Bundle.stringAtoms, a.before a0 Z = true := fun d hd => hw d ((by decide +kernel : ∀ d ∈ Bundle.stringAtoms, d ∈ tables_1) d hd)
  have w_1 := hw _ (List.mem_of_getElem? (i := 1) rfl)
  have w_178 := hw _ (List.mem_of_getElem? (i := 178) rfl)
  have w_26 := hw _ (List.mem_of_getElem? (i := 26) rfl)
  have w_27 := hw _ (List.mem_of_getElem? (i := 27) rfl)
  have w_28 := hw _ (List.mem_of_getElem? (i := 28) rfl)
  have w_29 := hw _ (List.mem_of_getElem? (i := 29) rfl)
  have oz := OLD.1
  have lt_a1 : a1 < h0.size := P1.lt
  have Sf0 := own_safe_null (EL := own_EL) hZ.alike P1 P2
  refine own_go (B := s₁.setTop (mkF m 0 #[.val (.ref a1), .val (.ref ca), .val (.int (0 : Int32)), .val (.int (0 : Int32)), .val .null, .unset] [])) pre0 ?_
  show ∃ t o, Steps p.tables e below (s₁.setTop (mkF m 0 #[.val (.ref a1), .val (.ref ca), .val (.int (0 : Int32)), .val (.int (0 : Int32)), .val .null, .unset] [])) t ∧ _
  refine own_go (fun _ => XS.aloadN X0.here hx rfl (hb hby d2_0) rfl rfl) ?_
  show ∃ t o, Steps p.tables e below (s₁.setTop (mkF m 1 #[.val (.ref a1), .val (.ref ca), .val (.int (0 : Int32)), .val (.int (0 : Int32)), .val .null, .unset] [(.ref a1)])) t ∧ _
  obtain ⟨T4, X4, e4, st4⟩ := initO X0 hx hZ hown (hw _ (List.mem_of_getElem? (i := 11) rfl)) (hw _ (List.mem_of_getElem? (i := 12) rfl)) (hw _ (List.mem_of_getElem? (i := 13) rfl)) e0 (g := (mkF m 1 #[.val (.ref a1), .val (.ref ca), .val (.int (0 : Int32)), .val (.int (0 : Int32)), .val .null, .unset] [(.ref a1)])) rfl (by rw [hml]; rfl) rfl (hb hby d2_1) (by decide) (W := 0) (by show 2 * 0 + _ ≤ _; exact Nat.le_of_eq rfl) (by decide)
  refine own_go st4 ?_
  refine own_go (fun _ => XS.iloadN X4.here hx rfl (hb hby d2_4) rfl) ?_
  show ∃ t o, Steps p.tables e below (T4.setTop (mkF m 5 #[.val (.ref a1), .val (.ref ca), .val (.int (0 : Int32)), .val (.int (0 : Int32)), .val .null, .unset] [(.int (0 : Int32))])) t ∧ _
  refine own_go (fun _ => XS.ifNo X4.here hx rfl (hb hby d2_5) rfl ((if0 _ _).trans (teq (by decide : (0 : Int32) = (0 : Int32))).2)) ?_
  refine own_go (fun _ => XS.aloadN X4.here hx rfl (hb hby d2_8) rfl rfl) ?_
  obtain ⟨a5, T5, h5, kS5, b5, kb5, X5, e5, E5, hS, hk5, hZ, hown, A5, Fc5, Fv5, Av5, lta5, ltb5, cr5, -, hne5, st5⟩ := ldcCH X4 hx hZ hown w_178 wS e4 hS (Nat.zero_le _) hEL own_mem0 CH0.1 (vs := []) (z := 0) ⟨by decide, rfl⟩ (by decide) rfl (g := (mkF m 9 #[.val (.ref a1), .val (.ref ca), .val (.int (0 : Int32)), .val (.int (0 : Int32)), .val .null, .unset] [(.ref a1)])) rfl (hb hby d2_9) (n := 0) (by decide) (by decide) (by decide) (by decide)
  refine own_go st5 ?_
  have K5 : Keep h0 h5 [a1] := Keep.ext (Keep.refl h0 [a1]) E5
  have le_5 : h0.size ≤ h5.size := E5.1
  have Sf6 := CHr.safe cr5 (show (a1 : Nat) < h0.size by omega) Sf0
  have CH7 := CHr.trans CH0 cr5
  have lt_a5 := own_ltn lta5
  have lt_b5 := own_ltn ltb5
  obtain ⟨T8, X8, e8, st8⟩ := getF X5 hx hZ hown (host := "") (Or.inl w_28) Via.refl e5 Fv5 (g := (mkF m 11 #[.val (.ref a1), .val (.ref ca), .val (.int (0 : Int32)), .val (.int (0 : Int32)), .val .null, .unset] [(.ref a5), (.ref a1)])) rfl rfl (hb hby d2_11)
  refine own_go st8 ?_
  have F9 := (Exa.ext E5 P1)
  have F10 := (Fld.ext E5 P2)
  obtain ⟨T11, h11, X11, e11, W11, st11⟩ := putF X8 hx hZ hown (host := "") (Or.inl w_28) Via.refl e8 F10 F9 (Or.inr ⟨w_29, rfl, hnm⟩) w_1 (ty := (.array .byte)) (by decide) rfl rfl (g := (mkF m 14 #[.val (.ref a1), .val (.ref ca), .val (.int (0 : Int32)), .val (.int (0 : Int32)), .val .null, .unset] [(.ref b5), (.ref a1)])) rfl rfl (hb hby d2_14)
  refine own_go st11 ?_
  have Sf12 := Safe.wr W11 Sf6 CH7.1 Sf6
  have CH13 := CHr.trans CH7 (CHr.wr W11 Sf6 CH7.1)
  have le_11 : h5.size ≤ h11.size := Nat.le_of_eq W11.size.symm
  have K11 : Keep h0 h11 [a1] := Keep.wr K5 W11 (Or.inl (List.mem_of_getElem? (i := 0) rfl))
  have N11 := Fr.snoc X11 N0 ga
  have Fw11 := Fld.same W11 F10
  refine own_go (fun _ => XS.aloadN X11.here hx rfl (hb hby d2_17) rfl rfl) ?_
  obtain ⟨a14, T14, h14, kS14, b14, kb14, X14, e14, E14, hS, hk14, hZ, hown, A14, Fc14, Fv14, Av14, lta14, ltb14, cr14, -, hne14, st14⟩ := ldcCH X11 hx hZ hown w_178 wS e11 hS (by omega) hEL own_mem0 CH13.1 (vs := []) (z := 0) ⟨by decide, rfl⟩ (by decide) rfl (g := (mkF m 18 #[.val (.ref a1), .val (.ref ca), .val (.int (0 : Int32)), .val (.int (0 : Int32)), .val .null, .unset] [(.ref a1)])) rfl (hb hby d2_18) (n := 0) (by decide) (by decide) (by decide) (by decide)
  refine own_go st14 ?_
  have K14 : Keep h0 h14 [a1] := Keep.ext K11 E14
  have le_14 : h11.size ≤ h14.size := E14.1
  have Sf15 := CHr.safe cr14 (show (a1 : Nat) < h11.size by omega) Sf12
  have CH16 := CHr.trans CH13 cr14
  have lt_a14 := own_ltn lta14
  have lt_b14 := own_ltn ltb14
  obtain ⟨T17, X17, e17, st17⟩ := getF X14 hx hZ hown (host := "") (Or.inl w_26) Via.refl e14 Fc14 (g := (mkF m 20 #[.val (.ref a1), .val (.ref ca), .val (.int (0 : Int32)), .val (.int (0 : Int32)), .val .null, .unset] [(.ref a14), (.ref a1)])) rfl rfl (hb hby d2_20)
  refine own_go st17 ?_
  have F18 := (Exa.ext E14 (Exa.wr W11 F9))
  have F19 := (Fld.ext E14 (Fld.other W11 (Fld.ext E5 P3) (Or.inr (slot_ne (a0 := a0) (Or.inr w_27) (Or.inr w_29) (by decide) (t := .byte) (t' := (.array .byte)) (by decide) (by decide)))))
  obtain ⟨T20, h20, X20, e20, W20, st20⟩ := putFN X17 hx hZ hown w_26 Via.refl e17 F19 F18 (Or.inr ⟨w_27, rfl, hnm⟩) w_1 (ty := .byte) (v' := (.int (0 : Int32).toInt8.toInt32)) (by decide) rfl (fits_nar_byte _) (g := (mkF m 23 #[.val (.ref a1), .val (.ref ca), .val (.int (0 : Int32)), .val (.int (0 : Int32)), .val .null, .unset] [(.int (0 : Int32)), (.ref a1)])) rfl rfl (hb hby d2_23)
  refine own_go st20 ?_
  have Sf21 := Safe.wr W20 Sf15 CH16.1 Sf15
  have CH22 := CHr.trans CH16 (CHr.wr W20 Sf15 CH16.1)
  have le_20 : h14.size ≤ h20.size := Nat.le_of_eq W20.size.symm
  have K20 : Keep h0 h20 [a1] := Keep.wr K14 W20 (Or.inl (List.mem_of_getElem? (i := 0) rfl))
  have N20 := Fr.snoc X20 N11 ga
  have Fw20 := Fld.same W20 F19
  have Fcz : Fld Z h20 a1 "java/lang/String" "coder" "B" (.int (0 : Int32)) := Fw20
  show ∃ t o, Steps p.tables e below (T20.setTop (mkF m 26 #[.val (.ref a1), .val (.ref ca), .val (.int (0 : Int32)), .val (.int (0 : Int32)), .val .null, .unset] [])) t ∧ _
  have F23 := (Exa.wr W20 F18)
  have F24 := (Fld.other W20 (Fld.ext E14 Fw11) (Or.inr (slot_ne (a0 := a0) (Or.inr w_29) (Or.inr w_27) (by decide) (t := (.array .byte)) (t' := .byte) (by decide) (by decide))))
  have F25 := (Arv.other ((Arv.other Av5 W11 (Ne.symm (hne5 _ Sf6).2)).ext E14) W20 (Ne.symm (hne5 _ Sf6).2))
  obtain ⟨fs, hr, hrun, hended, hW⟩ := Jvm.Stand.leaveW X20 hS (by rw [e20]; omega) (v := none) (fun _ => rfl)
  have CHz : CHr Z own_EL s.vm s.heap T20.vm T20.heap := by rw [hh, e20]; exact CHr.trans CH22 (CHv.at X20 hZ hEL CH22.1)
  refine ⟨_, _, ?_, hrun, hended, _, _, rfl, ?_, CHz, ⟨hW.1, hW.2.1, hW.2.2.1, hW.2.2.2.mono (by decide) (by decide)⟩⟩
  · exact X20.returnOut hx Bd.returns (hb hby d2_26) hr
  · show Q_rmS4 Z _ _ h0 n0 _ T20.heap _
    rw [e20]
    exact ⟨b5, kb5, rfl, N20, K20, F23, F24, Fcz, F25⟩
theorem ef_rmS1 (m : MethodId) (x0 : Nat) (x1 : Nat) : entryFrame m #[(.ref x0), (.ref x1)] 2 = mkF m 0 #[.val (.ref x0), .val (.ref x1)] [] := by first | (simp [entryFrame, mkF, argsToLocals, Value.category]; done) | rfl
def Q_rmS1 (Z : State) (a1 : Nat) (ca : Nat) (kc : ClassId) (h0 : Heap) (n0 : Nat) (v : Option Value) (h : Heap) (L : List Loc) : Prop := ∃ (tb : Nat), ∃ (kb : ClassId), v = none ∧ Fr n0 L ∧ Keep h0 h [a1] ∧ Exa Z h a1 "java/lang/String" ∧ Fld Z h a1 "java/lang/String" "value" "[B" (.ref tb) ∧ Fld Z h a1 "java/lang/String" "coder" "B" (.int (0 : Int32)) ∧ Arv Z h tb kb .byte (0 : Int32) [] (.int (0 : Int32))
set_option maxRecDepth 65536 in
set_option maxHeartbeats 40000000 in
theorem rmS1 (l : Launch) (Z : State) (a0 : Array Value) (hw : ∀ d ∈ tables_1, d.before a0 Z = true) (ws : List Jvm.Cond) (a1 : Nat) (ca : Nat) (kc : ClassId) (h0 : Heap) (n0 : Nat) (Z0 : n0 ≤ h0.size) (P1 : Exa Z h0 a1 "java/lang/String") (P2 : Fld Z h0 a1 "java/lang/String" "value" "[B" .null) (P3 : Fld Z h0 a1 "java/lang/String" "coder" "B" (.int (0 : Int32))) (P4 : Arv Z h0 ca kc .char (0 : Int32) [] (.int (0 : Int32))) (OLD : Old Z n0 h0) (ga : n0 ≤ a1) (hEL : EW Z a0 own_EL) :
    MetFree l (⟨"java/lang/String", "<init>", "([C)V"⟩ : MethodName) (head1 (Jvm.Cond.code (⟨"java/lang/String", "<init>", "([C)V"⟩ : MethodName) jdk_42_method_3_code 2 none :: ws) ({ frames := 2, cells := 4, slots := 8, locals := 29 } : Room)) (fun a U => a = #[(.ref a1), (.ref ca)] ∧ Z.Warmed39 U.vm ∧ U.heap = h0 ∧ CHv Z own_EL U.vm h0) (fun _ _ _ _ _ => True) (fun _ U o U' => ∃ v L, o = .returned v ∧ Q_rmS1 Z a1 ca kc h0 n0 v U'.heap L ∧ CHr Z own_EL U.vm U.heap U'.vm U'.heap ∧ ReturnedEndW U o U' L ({ frames := 2, cells := 4, slots := 8, locals := 29 } : Room).cells ({ frames := 2, cells := 4, slots := 8, locals := 29 } : Room).slots) := by
  refine MetFree.of_bodySF (plainFor_of_name pn_java_lang_String) hisR ?_
  intro p e s m args below meth c s₁ Bd hml0 hP hK
  obtain ⟨rfl, hZ, hh, hCH⟩ := hP
  have hx := Bd.exec
  have hby := Bd.bytes
  have hml : c.maxLocals = 2 := hml0
  have hown : s.vm.findClass "java/lang/String" = some m.cls := findClass_of_methodNamed Bd.named
  have hnm := (name_of_methodNamed Bd.named Bd.method).1
  have X0 : Stand p l e ({ frames := 2, cells := 4, slots := 8, locals := 29 } : Room) (s.setVm s.vm) m #[(.ref a1), (.ref ca)] below meth c s₁ [] 0 0 := Stand.of_body Bd
  have e0 : s₁.heap = h0 := by rw [← hh, Bd.state]; rfl
  have N0 := Fr.nil n0
  have pre0 : ∀ t, Steps p.tables e below (s₁.setTop (mkF m 0 #[.val (.ref a1), .val (.ref ca)] [])) t → Steps p.tables e below (s₁.setTop (entryFrame m #[(.ref a1), (.ref ca)] 2)) t := fun t k => castTop (ef_rmS1 m a1 ca) k
  have hZ : Z.Warmed39 (s.setVm s.vm).vm := hZ
  have hown : (s.setVm s.vm).vm.findClass "java/lang/String" = some m.cls := hown
  have hS : s.Since s.vm 0 := (State.WarmedH.refl s).since 0
  have CH0 : CHr Z own_EL s.vm h0 s.vm h0 := CHr.refl hCH
  have w_10 := hw _ (List.mem_of_getElem? (i := 10) rfl)
  have oz := OLD.1
  have lt_a1 : a1 < h0.size := P1.lt
  have lt_ca : ca < h0.size := P4.lt
  refine own_go (B := s₁.setTop (mkF m 0 #[.val (.ref a1), .val (.ref ca)] [])) pre0 ?_
  show ∃ t o, Steps p.tables e below (s₁.setTop (mkF m 0 #[.val (.ref a1), .val (.ref ca)] [])) t ∧ _
  refine own_go (fun _ => XS.aloadN X0.here hx rfl (hb hby d1_0) rfl rfl) ?_
  refine own_go (fun _ => XS.aloadN X0.here hx rfl (hb hby d1_1) rfl rfl) ?_
  refine own_go (fun _ => XS.iconst X0.here hx rfl (hb hby d1_2)) ?_
  refine own_go (fun _ => XS.aloadN X0.here hx rfl (hb hby d1_3) rfl rfl) ?_
  obtain ⟨cl5, Ar5, q5, S5, N5, H5, G5⟩ := id P4
  have ln5 : cl5.slots.size.toInt32 = (0 : Int32) := len_of S5 N5
  have al5 := X0.arraylength hx (by rw [e0]; exact Ar5.1) (State.isArrayOf_alike hZ.alike Ar5.2.1) (g := (mkF m 4 #[.val (.ref a1), .val (.ref ca)] [(.ref ca), (.int (0 : Int32)), (.ref ca), (.ref a1)])) rfl rfl (hb hby d1_4)
  rw [ln5] at al5
  refine own_go al5 ?_
  refine own_go (fun _ => XS.aconstNull X0.here hx rfl (hb hby d1_5)) ?_
  show ∃ t o, Steps p.tables e below (s₁.setTop (mkF m 6 #[.val (.ref a1), .val (.ref ca)] [.null, (.int (0 : Int32)), (.int (0 : Int32)), (.ref ca), (.ref a1)])) t ∧ _
  obtain ⟨_, _, ⟨T6, L6, k6, n6⟩, -, X6, hSn6, hgn6, ⟨Lc6, hQ6, l6, y6, z6, cr6⟩, st6⟩ := X0.specialBackS hx (y := (⟨"java/lang/String", "<init>", "([CIILjava/lang/Void;)V"⟩ : MethodName)) rfl hown (mvT hZ (hw _ (List.mem_of_getElem? (i := 7) rfl))) (mvT hZ (hw _ (List.mem_of_getElem? (i := 8) rfl))) (mvT hZ w_10) (by decide) (backOfSH (W := 0) (rmS4 l Z a0 hw [] a1 ca h0 n0 Z0 P1 P2 P3 OLD ga hEL) hZ w_10 (hw _ (List.mem_of_getElem? (i := 2) rfl)) (by decide) (by decide) hEL CH0.1) (g := (mkF m 6 #[.val (.ref a1), .val (.ref ca)] [.null, (.int (0 : Int32)), (.int (0 : Int32)), (.ref ca), (.ref a1)])) rfl (by rw [hml]; rfl) (Steps.refl _) (a := a1) (argsL := [(.ref ca), (.int (0 : Int32)), (.int (0 : Int32)), .null]) (rest := []) (lenOf pd__28_5bCIILjava_2flang_2fVoid_3b_29V rfl) rfl (by show 2 * 0 + _ ≤ _; exact Nat.le_of_eq rfl) (hb hby d1_6) (fun _ _ => ⟨rfl, e0, (by decide : 0 + 4 ≤ _), (by decide : 0 + 8 ≤ _)⟩)
  dsimp only [Pt.U, Pt.locs, Pt.cells, Pt.slots] at X6 l6 y6 z6 st6 hQ6 hSn6 hgn6 cr6
  rw [l6, y6, z6] at X6
  have hZ : Z.Warmed39 (s.setVm T6.vm).vm := State.Warmed39.trans (t := s.setVm s.vm) hZ hSn6.1
  have hown : (s.setVm T6.vm).vm.findClass "java/lang/String" = some m.cls := by rw [show (s.setVm T6.vm).vm = T6.vm from rfl, hSn6.1.alike.findClass]; exact hown
  have hS : s.Since T6.vm T6.heap.size := foldS (T := s₁) hS (Nat.zero_le _) hSn6 hgn6
  have X6 : Stand p l e _ (s.setVm T6.vm) m _ below meth c T6 _ _ _ := X6
  obtain ⟨tb_6, kb_6, rfl, Nq6, Kp6, G6_0, G6_1, G6_2, G6_3⟩ := hQ6
  have N6 := Fr.app N0 Nq6
  refine own_goT st6 ?_
  have le_6 : h0.size ≤ T6.heap.size := Kp6.1
  have K6 : Keep h0 T6.heap [a1] := Keep.trans (Keep.refl h0 [a1]) Kp6 (allS (Or.inl (List.mem_of_getElem? (i := 0) rfl)) all0)
  have CH7 := CHr.trans CH0 cr6
  have lt_tb_6 : tb_6 < T6.heap.size := (G6_3).lt
  show ∃ t o, Steps p.tables e below (T6.setTop (mkF m 9 #[.val (.ref a1), .val (.ref ca)] [])) t ∧ _
  obtain ⟨fs, hr, hrun, hended, hW⟩ := Jvm.Stand.leaveW X6 hS (by omega) (v := none) (fun _ => rfl)
  have CHz : CHr Z own_EL s.vm s.heap T6.vm T6.heap := by rw [hh]; exact CHr.trans CH7 (CHv.at X6 hZ hEL CH7.1)
  refine ⟨_, _, ?_, hrun, hended, _, _, rfl, ?_, CHz, ⟨hW.1, hW.2.1, hW.2.2.1, hW.2.2.2.mono (by decide) (by decide)⟩⟩
  · exact X6.returnOut hx Bd.returns (hb hby d1_9) hr
  · show Q_rmS1 Z _ _ _ h0 n0 _ T6.heap _
    exact ⟨tb_6, kb_6, rfl, N6, K6, G6_0, G6_1, G6_2, G6_3⟩
theorem ef_rmAI (m : MethodId) (x0 : Nat) (x1 : Nat) (x2 : Nat) : entryFrame m #[(.ref x0), (.ref x1), (.ref x2)] 3 = mkF m 0 #[.val (.ref x0), .val (.ref x1), .val (.ref x2)] [] := by first | (simp [entryFrame, mkF, argsToLocals, Value.category]; done) | rfl
theorem d31_0 : decode prog_1_method_1_code 0 = .ok (.aload_n 0, 1) := by decide +kernel
theorem d31_1 : decode prog_1_method_1_code 1 = .ok (.invokespecial 1, 3) := by decide +kernel
theorem d31_4 : decode prog_1_method_1_code 4 = .ok (.aload_n 0, 1) := by decide +kernel
theorem d31_5 : decode prog_1_method_1_code 5 = .ok (.aload_n 1, 1) := by decide +kernel
theorem d31_6 : decode prog_1_method_1_code 6 = .ok (.putfield 7, 3) := by decide +kernel
theorem d31_9 : decode prog_1_method_1_code 9 = .ok (.aload_n 0, 1) := by decide +kernel
theorem d31_10 : decode prog_1_method_1_code 10 = .ok (.aload_n 2, 1) := by decide +kernel
theorem d31_11 : decode prog_1_method_1_code 11 = .ok (.putfield 13, 3) := by decide +kernel
theorem d31_14 : decode prog_1_method_1_code 14 = .ok (.return_, 1) := by decide +kernel
theorem pn_com_example_earnest_roster_earnestroster_ApiError : plainName "com/example/earnest_roster/earnestroster/ApiError" = true := by first | (simp [plainName, overriddenIn]; done) | decide +kernel
def Q_rmAI (Z : State) (a1 : Nat) (c1 : Nat) (d1 : Nat) (h0 : Heap) (n0 : Nat) (v : Option Value) (h : Heap) (L : List Loc) : Prop := v = none ∧ Fr n0 L ∧ Keep h0 h [a1] ∧ Exa Z h a1 "com/example/earnest_roster/earnestroster/ApiError" ∧ Fld Z h a1 "com/example/earnest_roster/earnestroster/ApiError" "code" "Ljava/lang/String;" (.ref c1) ∧ Fld Z h a1 "com/example/earnest_roster/earnestroster/ApiError" "message" "Ljava/lang/String;" (.ref d1)
set_option maxRecDepth 65536 in
set_option maxHeartbeats 40000000 in
theorem rmAI (l : Launch) (Z : State) (a0 : Array Value) (hw : ∀ d ∈ tables_1, d.before a0 Z = true) (ws : List Jvm.Cond) (a1 : Nat) (c1 : Nat) (d1 : Nat) (h0 : Heap) (n0 : Nat) (Z0 : n0 ≤ h0.size) (P1 : Exa Z h0 a1 "com/example/earnest_roster/earnestroster/ApiError") (P2 : Fld Z h0 a1 "com/example/earnest_roster/earnestroster/ApiError" "code" "Ljava/lang/String;" .null) (P3 : Fld Z h0 a1 "com/example/earnest_roster/earnestroster/ApiError" "message" "Ljava/lang/String;" .null) (OLD : Old Z n0 h0) (ga : n0 ≤ a1) :
    MetFree l (⟨"com/example/earnest_roster/earnestroster/ApiError", "<init>", "(Ljava/lang/String;Ljava/lang/String;)V"⟩ : MethodName) (head1 (Jvm.Cond.code (⟨"com/example/earnest_roster/earnestroster/ApiError", "<init>", "(Ljava/lang/String;Ljava/lang/String;)V"⟩ : MethodName) prog_1_method_1_code 3 none :: ws) ({ frames := 1, cells := 0, slots := 0, locals := 12 } : Room)) (fun a U => a = #[(.ref a1), (.ref c1), (.ref d1)] ∧ Z.Warmed39 U.vm ∧ U.heap = h0) (fun _ _ _ _ _ => True) (fun _ U o U' => ∃ v L, o = .returned v ∧ Q_rmAI Z a1 c1 d1 h0 n0 v U'.heap L ∧ FrameEnd U o U' L ({ frames := 1, cells := 0, slots := 0, locals := 12 } : Room).cells ({ frames := 1, cells := 0, slots := 0, locals := 12 } : Room).slots) := by
  refine MetFree.of_bodySF (plainFor_of_name pn_com_example_earnest_roster_earnestroster_ApiError) hisR ?_
  intro p e s m args below meth c s₁ Bd hml0 hP hK
  obtain ⟨rfl, hZ, hh⟩ := hP
  have hx := Bd.exec
  have hby := Bd.bytes
  have hml : c.maxLocals = 3 := hml0
  have hown : s.vm.findClass "com/example/earnest_roster/earnestroster/ApiError" = some m.cls := findClass_of_methodNamed Bd.named
  have hnm := (name_of_methodNamed Bd.named Bd.method).1
  have X0 : Stand p l e ({ frames := 1, cells := 0, slots := 0, locals := 12 } : Room) s m #[(.ref a1), (.ref c1), (.ref d1)] below meth c s₁ [] 0 0 := Stand.of_body Bd
  have e0 : s₁.heap = h0 := by rw [← hh, Bd.state]; rfl
  have N0 := Fr.nil n0
  have pre0 : ∀ t, Steps p.tables e below (s₁.setTop (mkF m 0 #[.val (.ref a1), .val (.ref c1), .val (.ref d1)] [])) t → Steps p.tables e below (s₁.setTop (entryFrame m #[(.ref a1), (.ref c1), (.ref d1)] 3)) t := fun t k => castTop (ef_rmAI m a1 c1 d1) k
  have w_175 := hw _ (List.mem_of_getElem? (i := 175) rfl)
  have w_177 := hw _ (List.mem_of_getElem? (i := 177) rfl)
  have w_35 := hw _ (List.mem_of_getElem? (i := 35) rfl)
  have oz := OLD.1
  have lt_a1 : a1 < h0.size := P1.lt
  refine own_go (B := s₁.setTop (mkF m 0 #[.val (.ref a1), .val (.ref c1), .val (.ref d1)] [])) pre0 ?_
  show ∃ t o, Steps p.tables e below (s₁.setTop (mkF m 0 #[.val (.ref a1), .val (.ref c1), .val (.ref d1)] [])) t ∧ _
  refine own_go (fun _ => XS.aloadN X0.here hx rfl (hb hby d31_0) rfl rfl) ?_
  show ∃ t o, Steps p.tables e below (s₁.setTop (mkF m 1 #[.val (.ref a1), .val (.ref c1), .val (.ref d1)] [(.ref a1)])) t ∧ _
  obtain ⟨T4, X4, e4, st4⟩ := initO X0 hx hZ hown (hw _ (List.mem_of_getElem? (i := 173) rfl)) (hw _ (List.mem_of_getElem? (i := 12) rfl)) (hw _ (List.mem_of_getElem? (i := 13) rfl)) e0 (g := (mkF m 1 #[.val (.ref a1), .val (.ref c1), .val (.ref d1)] [(.ref a1)])) rfl (by rw [hml]; rfl) rfl (hb hby d31_1) (by decide) (W := 0) (by show 2 * 0 + _ ≤ _; exact Nat.le_of_eq rfl) (by decide)
  refine own_go st4 ?_
  refine own_go (fun _ => XS.aloadN X4.here hx rfl (hb hby d31_4) rfl rfl) ?_
  refine own_go (fun _ => XS.aloadN X4.here hx rfl (hb hby d31_5) rfl rfl) ?_
  obtain ⟨T5, h5, X5, e5, W5, st5⟩ := putF X4 hx hZ hown (host := "") (Or.inl (hw _ (List.mem_of_getElem? (i := 174) rfl))) Via.refl e4 P2 P1 (Or.inr ⟨w_175, rfl, hnm⟩) w_35 (ty := (.object "java/lang/String")) (by decide) rfl rfl (g := (mkF m 6 #[.val (.ref a1), .val (.ref c1), .val (.ref d1)] [(.ref c1), (.ref a1)])) rfl rfl (hb hby d31_6)
  refine own_go st5 ?_
  have le_5 : h0.size ≤ h5.size := Nat.le_of_eq W5.size.symm
  have K5 : Keep h0 h5 [a1] := Keep.wr (Keep.refl h0 [a1]) W5 (Or.inl (List.mem_of_getElem? (i := 0) rfl))
  have N5 := Fr.snoc X5 N0 ga
  have Fw5 := Fld.same W5 P2
  refine own_go (fun _ => XS.aloadN X5.here hx rfl (hb hby d31_9) rfl rfl) ?_
  refine own_go (fun _ => XS.aloadN X5.here hx rfl (hb hby d31_10) rfl rfl) ?_
  have F6 := (Exa.wr W5 P1)
  have F7 := (Fld.other W5 P3 (Or.inr (slot_ne (a0 := a0) (Or.inr w_177) (Or.inr w_175) (by decide) (t := (.object "java/lang/String")) (t' := (.object "java/lang/String")) (by decide) (by decide))))
  obtain ⟨T8, h8, X8, e8, W8, st8⟩ := putF X5 hx hZ hown (host := "") (Or.inl (hw _ (List.mem_of_getElem? (i := 176) rfl))) Via.refl e5 F7 F6 (Or.inr ⟨w_177, rfl, hnm⟩) w_35 (ty := (.object "java/lang/String")) (by decide) rfl rfl (g := (mkF m 11 #[.val (.ref a1), .val (.ref c1), .val (.ref d1)] [(.ref d1), (.ref a1)])) rfl rfl (hb hby d31_11)
  refine own_go st8 ?_
  have le_8 : h5.size ≤ h8.size := Nat.le_of_eq W8.size.symm
  have K8 : Keep h0 h8 [a1] := Keep.wr K5 W8 (Or.inl (List.mem_of_getElem? (i := 0) rfl))
  have N8 := Fr.snoc X8 N5 ga
  have Fw8 := Fld.same W8 F7
  show ∃ t o, Steps p.tables e below (T8.setTop (mkF m 14 #[.val (.ref a1), .val (.ref c1), .val (.ref d1)] [])) t ∧ _
  have F9 := (Exa.wr W8 F6)
  have F10 := (Fld.other W8 Fw5 (Or.inr (slot_ne (a0 := a0) (Or.inr w_175) (Or.inr w_177) (by decide) (t := (.object "java/lang/String")) (t' := (.object "java/lang/String")) (by decide) (by decide))))
  obtain ⟨fs, hr, hrun, hended, hW, hsame⟩ := X8.leave (v := none) (fun _ => rfl)
  refine ⟨_, _, ?_, hrun, hended, _, _, rfl, ?_, ⟨_, rfl⟩, hW, hsame.mono (by decide) (by decide)⟩
  · exact X8.returnOut hx Bd.returns (hb hby d31_14) hr
  · show Q_rmAI Z _ _ _ h0 n0 _ T8.heap _
    rw [e8]
    exact ⟨rfl, N8, K8, F9, F10, Fw8⟩
theorem ef_rmGcd (m : MethodId) (x0 : Nat) : entryFrame m #[(.ref x0)] 1 = mkF m 0 #[.val (.ref x0)] [] := by first | (simp [entryFrame, mkF, argsToLocals, Value.category]; done) | rfl
theorem d34_0 : decode prog_1_method_5_code 0 = .ok (.aload_n 0, 1) := by decide +kernel
theorem d34_1 : decode prog_1_method_5_code 1 = .ok (.getfield 7, 3) := by decide +kernel
theorem d34_4 : decode prog_1_method_5_code 4 = .ok (.areturn, 1) := by decide +kernel
def Q_rmGcd (Z : State) (a1 : Nat) (c1 : Nat) (h0 : Heap) (n0 : Nat) (v : Option Value) (h : Heap) (L : List Loc) : Prop := v = some (.ref c1) ∧ Fr n0 L ∧ h = h0
set_option maxRecDepth 65536 in
set_option maxHeartbeats 40000000 in
theorem rmGcd (l : Launch) (Z : State) (a0 : Array Value) (hw : ∀ d ∈ tables_1, d.before a0 Z = true) (ws : List Jvm.Cond) (a1 : Nat) (c1 : Nat) (h0 : Heap) (n0 : Nat) (Z0 : n0 ≤ h0.size) (P1 : Fld Z h0 a1 "com/example/earnest_roster/earnestroster/ApiError" "code" "Ljava/lang/String;" (.ref c1)) (OLD : Old Z n0 h0) :
    MetFree l (⟨"com/example/earnest_roster/earnestroster/ApiError", "getCode", "()Ljava/lang/String;"⟩ : MethodName) (head1 (Jvm.Cond.code (⟨"com/example/earnest_roster/earnestroster/ApiError", "getCode", "()Ljava/lang/String;"⟩ : MethodName) prog_1_method_5_code 1 (some (.object "java/lang/String")) :: ws) ({ frames := 0, cells := 0, slots := 0, locals := 0 } : Room)) (fun a U => a = #[(.ref a1)] ∧ Z.Warmed39 U.vm ∧ U.heap = h0) (fun _ _ _ _ _ => True) (fun _ U o U' => ∃ v L, o = .returned v ∧ Q_rmGcd Z a1 c1 h0 n0 v U'.heap L ∧ FrameEnd U o U' L ({ frames := 0, cells := 0, slots := 0, locals := 0 } : Room).cells ({ frames := 0, cells := 0, slots := 0, locals := 0 } : Room).slots) := by
  refine MetFree.of_bodySF (plainFor_of_name pn_com_example_earnest_roster_earnestroster_ApiError) hisR ?_
  intro p e s m args below meth c s₁ Bd hml0 hP hK
  obtain ⟨rfl, hZ, hh⟩ := hP
  have hx := Bd.exec
  have hby := Bd.bytes
  have hml : c.maxLocals = 1 := hml0
  have hown : s.vm.findClass "com/example/earnest_roster/earnestroster/ApiError" = some m.cls := findClass_of_methodNamed Bd.named
  have hnm := (name_of_methodNamed Bd.named Bd.method).1
  have X0 : Stand p l e ({ frames := 0, cells := 0, slots := 0, locals := 0 } : Room) s m #[(.ref a1)] below meth c s₁ [] 0 0 := Stand.of_body Bd
  have e0 : s₁.heap = h0 := by rw [← hh, Bd.state]; rfl
  have N0 := Fr.nil n0
  have pre0 : ∀ t, Steps p.tables e below (s₁.setTop (mkF m 0 #[.val (.ref a1)] [])) t → Steps p.tables e below (s₁.setTop (entryFrame m #[(.ref a1)] 1)) t := fun t k => castTop (ef_rmGcd m a1) k
  have oz := OLD.1
  have lt_a1 : a1 < h0.size := P1.lt
  refine own_go (B := s₁.setTop (mkF m 0 #[.val (.ref a1)] [])) pre0 ?_
  show ∃ t o, Steps p.tables e below (s₁.setTop (mkF m 0 #[.val (.ref a1)] [])) t ∧ _
  refine own_go (fun _ => XS.aloadN X0.here hx rfl (hb hby d34_0) rfl rfl) ?_
  obtain ⟨T2, X2, e2, st2⟩ := getF X0 hx hZ hown (host := "") (Or.inl (hw _ (List.mem_of_getElem? (i := 174) rfl))) Via.refl e0 P1 (g := (mkF m 1 #[.val (.ref a1)] [(.ref a1)])) rfl rfl (hb hby d34_1)
  refine own_go st2 ?_
  show ∃ t o, Steps p.tables e below (T2.setTop (mkF m 4 #[.val (.ref a1)] [(.ref c1)])) t ∧ _
  obtain ⟨fs, hr, hrun, hended, hW, hsame⟩ := X2.leave (v := some (.ref c1)) (fun h => by rw [Bd.returns] at h; cases h)
  refine ⟨_, _, ?_, hrun, hended, _, _, rfl, ?_, ⟨_, rfl⟩, hW, hsame.mono (by decide) (by decide)⟩
  · jvm_step X2.here [X2.here.top, hx, (hb hby d34_4), X2.method', Bd.returns, Value.isRef, FieldType.isReference]
    first | (intro acts; rw [hr _ acts rfl rfl rfl]) | rw [hr _ _ rfl rfl rfl]
    exact Steps.refl _
  · show Q_rmGcd Z _ _ h0 n0 _ T2.heap _
    rw [e2]
    exact ⟨rfl, N0, rfl⟩
theorem ef_rmGms (m : MethodId) (x0 : Nat) : entryFrame m #[(.ref x0)] 1 = mkF m 0 #[.val (.ref x0)] [] := by first | (simp [entryFrame, mkF, argsToLocals, Value.category]; done) | rfl
theorem d36_0 : decode prog_1_method_6_code 0 = .ok (.aload_n 0, 1) := by decide +kernel
theorem d36_1 : decode prog_1_method_6_code 1 = .ok (.getfield 13, 3) := by decide +kernel
theorem d36_4 : decode prog_1_method_6_code 4 = .ok (.areturn, 1) := by decide +kernel
def Q_rmGms (Z : State) (a1 : Nat) (d1 : Nat) (h0 : Heap) (n0 : Nat) (v : Option Value) (h : Heap) (L : List Loc) : Prop := v = some (.ref d1) ∧ Fr n0 L ∧ h = h0
set_option maxRecDepth 65536 in
set_option maxHeartbeats 40000000 in
theorem rmGms (l : Launch) (Z : State) (a0 : Array Value) (hw : ∀ d ∈ tables_1, d.before a0 Z = true) (ws : List Jvm.Cond) (a1 : Nat) (d1 : Nat) (h0 : Heap) (n0 : Nat) (Z0 : n0 ≤ h0.size) (P1 : Fld Z h0 a1 "com/example/earnest_roster/earnestroster/ApiError" "message" "Ljava/lang/String;" (.ref d1)) (OLD : Old Z n0 h0) :
    MetFree l (⟨"com/example/earnest_roster/earnestroster/ApiError", "getMessage", "()Ljava/lang/String;"⟩ : MethodName) (head1 (Jvm.Cond.code (⟨"com/example/earnest_roster/earnestroster/ApiError", "getMessage", "()Ljava/lang/String;"⟩ : MethodName) prog_1_method_6_code 1 (some (.object "java/lang/String")) :: ws) ({ frames := 0, cells := 0, slots := 0, locals := 0 } : Room)) (fun a U => a = #[(.ref a1)] ∧ Z.Warmed39 U.vm ∧ U.heap = h0) (fun _ _ _ _ _ => True) (fun _ U o U' => ∃ v L, o = .returned v ∧ Q_rmGms Z a1 d1 h0 n0 v U'.heap L ∧ FrameEnd U o U' L ({ frames := 0, cells := 0, slots := 0, locals := 0 } : Room).cells ({ frames := 0, cells := 0, slots := 0, locals := 0 } : Room).slots) := by
  refine MetFree.of_bodySF (plainFor_of_name pn_com_example_earnest_roster_earnestroster_ApiError) hisR ?_
  intro p e s m args below meth c s₁ Bd hml0 hP hK
  obtain ⟨rfl, hZ, hh⟩ := hP
  have hx := Bd.exec
  have hby := Bd.bytes
  have hml : c.maxLocals = 1 := hml0
  have hown : s.vm.findClass "com/example/earnest_roster/earnestroster/ApiError" = some m.cls := findClass_of_methodNamed Bd.named
  have hnm := (name_of_methodNamed Bd.named Bd.method).1
  have X0 : Stand p l e ({ frames := 0, cells := 0, slots := 0, locals := 0 } : Room) s m #[(.ref a1)] below meth c s₁ [] 0 0 := Stand.of_body Bd
  have e0 : s₁.heap = h0 := by rw [← hh, Bd.state]; rfl
  have N0 := Fr.nil n0
  have pre0 : ∀ t, Steps p.tables e below (s₁.setTop (mkF m 0 #[.val (.ref a1)] [])) t → Steps p.tables e below (s₁.setTop (entryFrame m #[(.ref a1)] 1)) t := fun t k => castTop (ef_rmGms m a1) k
  have oz := OLD.1
  have lt_a1 : a1 < h0.size := P1.lt
  refine own_go (B := s₁.setTop (mkF m 0 #[.val (.ref a1)] [])) pre0 ?_
  show ∃ t o, Steps p.tables e below (s₁.setTop (mkF m 0 #[.val (.ref a1)] [])) t ∧ _
  refine own_go (fun _ => XS.aloadN X0.here hx rfl (hb hby d36_0) rfl rfl) ?_
  obtain ⟨T2, X2, e2, st2⟩ := getF X0 hx hZ hown (host := "") (Or.inl (hw _ (List.mem_of_getElem? (i := 176) rfl))) Via.refl e0 P1 (g := (mkF m 1 #[.val (.ref a1)] [(.ref a1)])) rfl rfl (hb hby d36_1)
  refine own_go st2 ?_
  show ∃ t o, Steps p.tables e below (T2.setTop (mkF m 4 #[.val (.ref a1)] [(.ref d1)])) t ∧ _
  obtain ⟨fs, hr, hrun, hended, hW, hsame⟩ := X2.leave (v := some (.ref d1)) (fun h => by rw [Bd.returns] at h; cases h)
  refine ⟨_, _, ?_, hrun, hended, _, _, rfl, ?_, ⟨_, rfl⟩, hW, hsame.mono (by decide) (by decide)⟩
  · jvm_step X2.here [X2.here.top, hx, (hb hby d36_4), X2.method', Bd.returns, Value.isRef, FieldType.isReference]
    first | (intro acts; rw [hr _ acts rfl rfl rfl]) | rw [hr _ _ rfl rfl rfl]
    exact Steps.refl _
  · show Q_rmGms Z _ _ h0 n0 _ T2.heap _
    rw [e2]
    exact ⟨rfl, N0, rfl⟩
theorem ef_rmNiL (m : MethodId) (x0 : Nat) : entryFrame m #[(.ref x0)] 1 = mkF m 0 #[.val (.ref x0)] [] := by first | (simp [entryFrame, mkF, argsToLocals, Value.category]; done) | rfl
theorem d7_0 : decode prog_1_method_3_code 0 = .ok (.new 8, 3) := by decide +kernel
theorem d7_3 : decode prog_1_method_3_code 3 = .ok (.dup, 1) := by decide +kernel
theorem d7_4 : decode prog_1_method_3_code 4 = .ok (.ldc 16, 2) := by decide +kernel
theorem own_ct_6e_6f_74_5f_66_6f_75_6e_64 : (∀ c ∈ "not_found".toList, c.toNat < 256) ∧ "not_found".toList.map (fun c => Value.int (Jvm.Lit.byteI c.toNat.toUInt16)) = [(.int (110 : Int32)), (.int (111 : Int32)), (.int (116 : Int32)), (.int (95 : Int32)), (.int (102 : Int32)), (.int (111 : Int32)), (.int (117 : Int32)), (.int (110 : Int32)), (.int (100 : Int32))] := ⟨by decide, by first | rfl | decide | (simp; decide)⟩
theorem d7_6 : decode prog_1_method_3_code 6 = .ok (.new 18, 3) := by decide +kernel
theorem d7_9 : decode prog_1_method_3_code 9 = .ok (.dup, 1) := by decide +kernel
theorem d7_10 : decode prog_1_method_3_code 10 = .ok (.invokespecial 20, 3) := by decide +kernel
theorem d7_13 : decode prog_1_method_3_code 13 = .ok (.ldc 34, 2) := by decide +kernel
def own_tx_57 : String := match tables_1[57]? with | some (Jvm.Cond.stringLink _ _ t) => t | _ => ""
theorem own_ctw_57 : (∀ c ∈ own_tx_57.toList, c.toNat < 256) ∧ own_tx_57.toList.map (fun c => Value.int (Jvm.Lit.byteI c.toNat.toUInt16)) = [(.int (116 : Int32)), (.int (104 : Int32)), (.int (101 : Int32)), (.int (114 : Int32)), (.int (101 : Int32)), (.int (32 : Int32)), (.int (105 : Int32)), (.int (115 : Int32)), (.int (32 : Int32)), (.int (110 : Int32)), (.int (111 : Int32)), (.int (32 : Int32)), (.int (105 : Int32)), (.int (109 : Int32)), (.int (112 : Int32)), (.int (111 : Int32)), (.int (114 : Int32)), (.int (116 : Int32)), (.int (32 : Int32)), (.int (119 : Int32)), (.int (105 : Int32)), (.int (116 : Int32)), (.int (104 : Int32)), (.int (32 : Int32)), (.int (116 : Int32)), (.int (104 : Int32)), (.int (101 : Int32)), (.int (32 : Int32)), (.int (105 : Int32)), (.int (100 : Int32)), (.int (32 : Int32))] := ⟨by decide +kernel, by first | rfl | decide +kernel⟩
theorem d7_15 : decode prog_1_method_3_code 15 = .ok (.invokevirtual 23, 3) := by decide +kernel
theorem pd_h63c63b4d : parseMethodDescriptor "(Ljava/lang/String;)Ljava/lang/StringBuilder;" = some ⟨[(.object "java/lang/String")], some (.object "java/lang/StringBuilder")⟩ := by decide +kernel
theorem d7_18 : decode prog_1_method_3_code 18 = .ok (.aload_n 0, 1) := by decide +kernel
theorem d7_19 : decode prog_1_method_3_code 19 = .ok (.invokevirtual 23, 3) := by decide +kernel
theorem d7_22 : decode prog_1_method_3_code 22 = .ok (.invokevirtual 27, 3) := by decide +kernel
theorem pd__28_29Ljava_2flang_2fString_3b : parseMethodDescriptor "()Ljava/lang/String;" = some ⟨[], some (.object "java/lang/String")⟩ := by decide +kernel
theorem d7_25 : decode prog_1_method_3_code 25 = .ok (.invokespecial 31, 3) := by decide +kernel
theorem pd__28Ljava_2flang_2fString_3bLjava_2flang_2fString_3b_29V : parseMethodDescriptor "(Ljava/lang/String;Ljava/lang/String;)V" = some ⟨[(.object "java/lang/String"), (.object "java/lang/String")], none⟩ := by decide +kernel
theorem d7_28 : decode prog_1_method_3_code 28 = .ok (.areturn, 1) := by decide +kernel
def Q_rmNiL (Z : State) (so : Nat) (tb : Nat) (kb : ClassId) (nn : Int32) (vs : List Value) (zc : Int32) (h0 : Heap) (n0 : Nat) (v : Option Value) (h : Heap) (L : List Loc) : Prop := ∃ (er : Nat), ∃ (ac : Nat), ∃ (ta : Nat), ∃ (ka : ClassId), ∃ (bm : Nat), ∃ (tm : Nat), ∃ (km : ClassId), ∃ (nm : Int32), v = some (.ref er) ∧ Fr n0 L ∧ Keep h0 h [] ∧ Exa Z h er "com/example/earnest_roster/earnestroster/ApiError" ∧ Fld Z h er "com/example/earnest_roster/earnestroster/ApiError" "code" "Ljava/lang/String;" (.ref ac) ∧ Fld Z h er "com/example/earnest_roster/earnestroster/ApiError" "message" "Ljava/lang/String;" (.ref bm) ∧ Exa Z h ac "java/lang/String" ∧ Fld Z h ac "java/lang/String" "value" "[B" (.ref ta) ∧ Fld Z h ac "java/lang/String" "coder" "B" (.int (0 : Int32)) ∧ Arv Z h ta ka .byte (9 : Int32) own_nf (.int (0 : Int32)) ∧ Exa Z h bm "java/lang/String" ∧ Fld Z h bm "java/lang/String" "value" "[B" (.ref tm) ∧ Fld Z h bm "java/lang/String" "coder" "B" (.int (0 : Int32)) ∧ Arv Z h tm km .byte nm (([] ++ (own_lb own_pre)) ++ vs) (.int (0 : Int32)) ∧ (own_fit (([] ++ (own_lb own_pre)) ++ vs) nm)
set_option maxRecDepth 65536 in
set_option maxHeartbeats 40000000 in
theorem rmNiL (l : Launch) (Z : State) (a0 : Array Value) (hw : ∀ d ∈ tables_1, d.before a0 Z = true) (ws : List Jvm.Cond) (so : Nat) (tb : Nat) (kb : ClassId) (nn : Int32) (vs : List Value) (zc : Int32) (h0 : Heap) (n0 : Nat) (Z0 : n0 ≤ h0.size) (P1 : Exa Z h0 so "java/lang/String") (P2 : Fld Z h0 so "java/lang/String" "value" "[B" (.ref tb)) (P3 : Fld Z h0 so "java/lang/String" "coder" "B" (.int (0 : Int32))) (P4 : Arv Z h0 tb kb .byte nn vs (.int (0 : Int32))) (OLD : Old Z n0 h0) (P5 : Sta Z Z.heap "java/lang/String" "COMPACT_STRINGS" "Z" (.int zc)) (hzc : ¬ (zc = (0 : Int32))) (f1 : own_fit vs nn) (hv : vs.length ≤ 3) (hEL : EW Z a0 own_EL) :
    MetFree l (⟨"com/example/earnest_roster/earnestroster/ApiError", "noImportWithId", "(Ljava/lang/String;)Lcom/example/earnest_roster/earnestroster/ApiError;"⟩ : MethodName) (head1 (Jvm.Cond.code (⟨"com/example/earnest_roster/earnestroster/ApiError", "noImportWithId", "(Ljava/lang/String;)Lcom/example/earnest_roster/earnestroster/ApiError;"⟩ : MethodName) prog_1_method_3_code 1 (some (.object "com/example/earnest_roster/earnestroster/ApiError")) :: ws) ({ frames := 6, cells := 11, slots := 620, locals := 94 } : Room)) (fun a U => a = #[(.ref so)] ∧ Z.Warmed39 U.vm ∧ U.heap = h0 ∧ CHv Z own_EL U.vm h0) (fun _ _ _ _ _ => True) (fun _ U o U' => ∃ v L, o = .returned v ∧ Q_rmNiL Z so tb kb nn vs zc h0 n0 v U'.heap L ∧ CHr Z own_EL U.vm U.heap U'.vm U'.heap ∧ ReturnedEndW U o U' L ({ frames := 6, cells := 11, slots := 620, locals := 94 } : Room).cells ({ frames := 6, cells := 11, slots := 620, locals := 94 } : Room).slots) := by
  refine MetFree.of_bodySF (plainFor_of_name pn_com_example_earnest_roster_earnestroster_ApiError) hisR ?_
  intro p e s m args below meth c s₁ Bd hml0 hP hK
  obtain ⟨rfl, hZ, hh, hCH⟩ := hP
  have hx := Bd.exec
  have hby := Bd.bytes
  have hml : c.maxLocals = 1 := hml0
  have hown : s.vm.findClass "com/example/earnest_roster/earnestroster/ApiError" = some m.cls := findClass_of_methodNamed Bd.named
  have hnm := (name_of_methodNamed Bd.named Bd.method).1
  have X0 : Stand p l e ({ frames := 6, cells := 11, slots := 620, locals := 94 } : Room) (s.setVm s.vm) m #[(.ref so)] below meth c s₁ [] 0 0 := Stand.of_body Bd
  have e0 : s₁.heap = h0 := by rw [← hh, Bd.state]; rfl
  have N0 := Fr.nil n0
  have pre0 : ∀ t, Steps p.tables e below (s₁.setTop (mkF m 0 #[.val (.ref so)] [])) t → Steps p.tables e below (s₁.setTop (entryFrame m #[(.ref so)] 1)) t := fun t k => castTop (ef_rmNiL m so) k
  have hZ : Z.Warmed39 (s.setVm s.vm).vm := hZ
  have hown : (s.setVm s.vm).vm.findClass "com/example/earnest_roster/earnestroster/ApiError" = some m.cls := hown
  have hS : s.Since s.vm 0 := (State.WarmedH.refl s).since 0
  have CH0 : CHr Z own_EL s.vm h0 s.vm h0 := CHr.refl hCH
  have wS : ∀ a ∈ Bundle.stringAtoms, a.before a0 Z = true := fun d hd => hw d ((by decide +kernel : ∀ d ∈ Bundle.stringAtoms, d ∈ tables_1) d hd)
  have w_131 := hw _ (List.mem_of_getElem? (i := 131) rfl)
  have w_172 := hw _ (List.mem_of_getElem? (i := 172) rfl)
  have w_32 := hw _ (List.mem_of_getElem? (i := 32) rfl)
  have w_41 := hw _ (List.mem_of_getElem? (i := 41) rfl)
  have w_44 := hw _ (List.mem_of_getElem? (i := 44) rfl)
  have w_58 := hw _ (List.mem_of_getElem? (i := 58) rfl)
  have w_59 := hw _ (List.mem_of_getElem? (i := 59) rfl)
  have w_60 := hw _ (List.mem_of_getElem? (i := 60) rfl)
  have w_61 := hw _ (List.mem_of_getElem? (i := 61) rfl)
  have w_62 := hw _ (List.mem_of_getElem? (i := 62) rfl)
  have oz := OLD.1
  have lt_so : so < h0.size := P1.lt
  have lt_tb : tb < h0.size := P4.lt
  refine own_go (B := s₁.setTop (mkF m 0 #[.val (.ref so)] [])) pre0 ?_
  show ∃ t o, Steps p.tables e below (s₁.setTop (mkF m 0 #[.val (.ref so)] [])) t ∧ _
  obtain ⟨T6, h6, X6, e6, E6, A6, D6, -, st6⟩ := newO X0 hx hZ hown (hw _ (List.mem_of_getElem? (i := 34) rfl)) (hw _ (List.mem_of_getElem? (i := 35) rfl)) w_32 e0 (g := (mkF m 0 #[.val (.ref so)] [])) rfl (hb hby d7_0) (by decide) (by decide)
  obtain ⟨b6, g6⟩ : ∃ z, z = h0.size := ⟨_, rfl⟩
  rw [← g6] at A6 D6 st6
  refine own_go st6 ?_
  have le_6 : h0.size ≤ h6.size := E6.1
  have lt_b6 : b6 < h6.size := A6.lt
  have F_code_b6 : Fld Z h6 b6 "com/example/earnest_roster/earnestroster/ApiError" "code" "Ljava/lang/String;" .null := D6 (Or.inr (hw _ (List.mem_of_getElem? (i := 175) rfl))) (ty := (.object "java/lang/String")) (by decide)
  have F_message_b6 : Fld Z h6 b6 "com/example/earnest_roster/earnestroster/ApiError" "message" "Ljava/lang/String;" .null := D6 (Or.inr (hw _ (List.mem_of_getElem? (i := 177) rfl))) (ty := (.object "java/lang/String")) (by decide)
  have K6 : Keep h0 h6 [] := Keep.ext (Keep.refl h0 []) E6
  have CH7 := CHr.trans CH0 (CHr.ext E6 CH0.1)
  refine own_go (fun _ => XS.dup X6.here hx rfl (hb hby d7_3) rfl rfl) ?_
  have sf8 := Safe.exa (EL := own_EL) hZ.alike A6 (by decide) (by decide)
  obtain ⟨a9, T9, h9, kS9, b9, kb9, X9, e9, E9, hS, hk9, hZ, hown, A9, Fc9, Fv9, Av9, lta9, ltb9, cr9, -, hne9, st9⟩ := ldcCH X6 hx hZ hown (hw _ (List.mem_of_getElem? (i := 36) rfl)) wS e6 hS (Nat.zero_le _) hEL own_mem1 CH7.1 (vs := [(.int (110 : Int32)), (.int (111 : Int32)), (.int (116 : Int32)), (.int (95 : Int32)), (.int (102 : Int32)), (.int (111 : Int32)), (.int (117 : Int32)), (.int (110 : Int32)), (.int (100 : Int32))]) (z := 9) own_ct_6e_6f_74_5f_66_6f_75_6e_64 (by decide) rfl (g := (mkF m 4 #[.val (.ref so)] [(.ref b6), (.ref b6)])) rfl (hb hby d7_4) (n := 36) (by decide) (by decide) (by decide) (by decide)
  refine own_go st9 ?_
  have K9 : Keep h0 h9 [] := Keep.ext K6 E9
  have le_9 : h6.size ≤ h9.size := E9.1
  have Sf10 := CHr.safe cr9 (show (b6 : Nat) < h6.size by omega) sf8
  have CH11 := CHr.trans CH7 cr9
  have lt_a9 := own_ltn lta9
  have lt_b9 := own_ltn ltb9
  have Pn12 : Arv Z h9 b9 kb9 .byte (9 : Int32) own_nf (.int (0 : Int32)) := Av9
  show ∃ t o, Steps p.tables e below (T9.setTop (mkF m 6 #[.val (.ref so)] [(.ref a9), (.ref b6), (.ref b6)])) t ∧ _
  obtain ⟨T13, h13, X13, e13, E13, A13, D13, -, st13⟩ := newO X9 hx hZ hown (hw _ (List.mem_of_getElem? (i := 39) rfl)) (hw _ (List.mem_of_getElem? (i := 40) rfl)) w_41 e9 (g := (mkF m 6 #[.val (.ref so)] [(.ref a9), (.ref b6), (.ref b6)])) rfl (hb hby d7_6) (by decide) (by decide)
  obtain ⟨b13, g13⟩ : ∃ z, z = h9.size := ⟨_, rfl⟩
  rw [← g13] at A13 D13 st13
  refine own_go st13 ?_
  have le_13 : h9.size ≤ h13.size := E13.1
  have lt_b13 : b13 < h13.size := A13.lt
  have F_value_b13 : Fld Z h13 b13 "java/lang/AbstractStringBuilder" "value" "[B" .null := D13 (Or.inl (hw _ (List.mem_of_getElem? (i := 54) rfl))) (ty := (.array .byte)) (by decide)
  have F_coder_b13 : Fld Z h13 b13 "java/lang/AbstractStringBuilder" "coder" "B" (.int (0 : Int32)) := D13 (Or.inl (hw _ (List.mem_of_getElem? (i := 56) rfl))) (ty := .byte) (by decide)
  have F_count_b13 : Fld Z h13 b13 "java/lang/AbstractStringBuilder" "count" "I" (.int (0 : Int32)) := D13 (Or.inl (hw _ (List.mem_of_getElem? (i := 79) rfl))) (ty := .int) (by decide)
  have F_maybeLatin1_b13 : Fld Z h13 b13 "java/lang/AbstractStringBuilder" "maybeLatin1" "Z" (.int (0 : Int32)) := D13 (Or.inl (hw _ (List.mem_of_getElem? (i := 254) rfl))) (ty := .boolean) (by decide)
  have K13 : Keep h0 h13 [] := Keep.ext K9 E13
  have Sf14 := Safe.ext E13 CH11.1 Sf10
  have CH15 := CHr.trans CH11 (CHr.ext E13 CH11.1)
  refine own_go (fun _ => XS.dup X13.here hx rfl (hb hby d7_9) rfl rfl) ?_
  have sf16 := Safe.exa (EL := own_EL) hZ.alike A13 (by decide) (by decide)
  show ∃ t o, Steps p.tables e below (T13.setTop (mkF m 10 #[.val (.ref so)] [(.ref b13), (.ref b13), (.ref a9), (.ref b6), (.ref b6)])) t ∧ _
  have F17 := (((OLD.ext E6).ext E9).ext E13)
  have ge18 : n0 ≤ b13 := by omega
  have zl19 : n0 ≤ h13.size := by omega
  have sf20 := Safe.exa (EL := own_EL) hZ.alike A13 (by decide) (by decide)
  obtain ⟨_, _, ⟨T21, L21, k21, n21⟩, -, X21, ⟨Lc21, hQ21, l21, y21, z21⟩, st21⟩ := X13.specialBack hx (y := (⟨"java/lang/StringBuilder", "<init>", "()V"⟩ : MethodName)) rfl hown (mvT hZ (hw _ (List.mem_of_getElem? (i := 42) rfl))) (mvT hZ (hw _ (List.mem_of_getElem? (i := 43) rfl))) (mvT hZ w_44) (by decide) (backOf (W := 4) (rmSBI l Z a0 hw [] b13 zc h13 n0 zl19 A13 F_value_b13 F_coder_b13 F_count_b13 F_maybeLatin1_b13 F17 P5 hzc ge18) hZ w_44 w_41 (by decide) (by decide)) (g := (mkF m 10 #[.val (.ref so)] [(.ref b13), (.ref b13), (.ref a9), (.ref b6), (.ref b6)])) rfl (by rw [hml]; rfl) (Steps.refl _) (a := b13) (argsL := []) (rest := [(.ref b13), (.ref a9), (.ref b6), (.ref b6)]) (lenOf pd__28_29V rfl) rfl (by show 2 * 0 + _ ≤ _; exact Nat.le_of_eq rfl) (hb hby d7_10) (fun _ _ => ⟨rfl, e13, (by decide : 4 + 1 ≤ _), (by decide : 46 + 16 ≤ _)⟩)
  dsimp only [Pt.U, Pt.locs, Pt.cells, Pt.slots] at X21 l21 y21 z21 st21 hQ21
  rw [l21, y21, z21] at X21
  obtain ⟨vb_21, kv_21, rfl, Nq21, Kp21, G21_0, G21_1, G21_2, G21_3, G21_4, G21_5, G21_6, H21_0⟩ := hQ21
  have N21 := Fr.app N0 Nq21
  refine own_goT st21 ?_
  have le_21 : h13.size ≤ T21.heap.size := Kp21.1
  have sz22 : h0.size ≤ b13 := by omega
  have K21 : Keep h0 T21.heap [] := Keep.trans K13 Kp21 (allS (Or.inr sz22) all0)
  have Sf23 := Safe.keep Kp21 (allS sf20 all0) CH15.1 Sf14
  have CH24 := CHr.trans CH15 (CHr.keep Kp21 (allS sf20 all0) CH15.1)
  have lt_vb_21 : vb_21 < T21.heap.size := (G21_4).lt
  have Sfv := Safe.keep Kp21 (allS sf16 all0) CH15.1 (Safe.new (show h13.size ≤ (vb_21 : Nat) by omega))
  have Sfb := Safe.keep Kp21 (allS sf16 all0) CH15.1 sf16
  have fA : own_fit [] (0 : Int32) := rfl
  have cA : own_cap [] (16 : Int32) := ⟨by decide, by decide, Or.inl rfl⟩
  obtain ⟨a25, T25, h25, kS25, b25, kb25, X25, e25, E25, hS, hk25, hZ, hown, A25, Fc25, Fv25, Av25, lta25, ltb25, cr25, -, hne25, st25⟩ := ldcCH X21 hx hZ hown (hw _ (List.mem_of_getElem? (i := 57) rfl)) wS rfl hS (by omega) hEL own_mem2 CH24.1 (vs := [(.int (116 : Int32)), (.int (104 : Int32)), (.int (101 : Int32)), (.int (114 : Int32)), (.int (101 : Int32)), (.int (32 : Int32)), (.int (105 : Int32)), (.int (115 : Int32)), (.int (32 : Int32)), (.int (110 : Int32)), (.int (111 : Int32)), (.int (32 : Int32)), (.int (105 : Int32)), (.int (109 : Int32)), (.int (112 : Int32)), (.int (111 : Int32)), (.int (114 : Int32)), (.int (116 : Int32)), (.int (32 : Int32)), (.int (119 : Int32)), (.int (105 : Int32)), (.int (116 : Int32)), (.int (104 : Int32)), (.int (32 : Int32)), (.int (116 : Int32)), (.int (104 : Int32)), (.int (101 : Int32)), (.int (32 : Int32)), (.int (105 : Int32)), (.int (100 : Int32)), (.int (32 : Int32))]) (z := 31) own_ctw_57 (by decide) rfl (g := (mkF m 13 #[.val (.ref so)] [(.ref b13), (.ref a9), (.ref b6), (.ref b6)])) rfl (hb hby d7_13) (n := 124) (by decide) (by decide) (by decide) (by decide)
  refine own_go st25 ?_
  have K25 : Keep h0 h25 [] := Keep.ext K21 E25
  have le_25 : T21.heap.size ≤ h25.size := E25.1
  have Sf26 := CHr.safe cr25 (show (b6 : Nat) < T21.heap.size by omega) Sf23
  have Sf27 := CHr.safe cr25 (show (vb_21 : Nat) < T21.heap.size by omega) Sfv
  have Sf28 := CHr.safe cr25 (show (b13 : Nat) < T21.heap.size by omega) Sfb
  have CH29 := CHr.trans CH24 cr25
  have lt_a25 := own_ltn lta25
  have lt_b25 := own_ltn ltb25
  have Pp30 : Arv Z h25 b25 kb25 .byte (31 : Int32) (own_lb own_pre) (.int (0 : Int32)) := Av25
  have fK : own_fit (own_lb own_pre) (31 : Int32) := rfl
  show ∃ t o, Steps p.tables e below (T25.setTop (mkF m 15 #[.val (.ref so)] [(.ref a25), (.ref b13), (.ref a9), (.ref b6), (.ref b6)])) t ∧ _
  have F31 := (Exa.ext E25 G21_0)
  have F32 := (Fld.ext E25 G21_1)
  have F33 := (Fld.ext E25 G21_2)
  have F34 := (Fld.ext E25 G21_3)
  have F35 := (Exa.ext E25 G21_4)
  have F36 := (G21_5.ext E25)
  have F37 := (Fld.ext E25 G21_6)
  have F38 := ((Old.keep F17 Kp21 (allS ge18 all0)).ext E25)
  have ge39 : n0 ≤ vb_21 := by omega
  have ne40 : b13 ≠ vb_21 := own_ne (by omega)
  have zl41 : n0 ≤ h25.size := by omega
  obtain ⟨cq42, kq42, q42a, q42b, q42c⟩ := isOf hZ e25 F31
  obtain ⟨_, _, ⟨T42, L42, k42, n42⟩, -, X42, ⟨Lc42, hQ42, l42, y42, z42⟩, st42⟩ := X25.virtualBack hx (y := (⟨"java/lang/StringBuilder", "append", "(Ljava/lang/String;)Ljava/lang/StringBuilder;"⟩ : MethodName)) (z := (⟨"java/lang/StringBuilder", "append", "(Ljava/lang/String;)Ljava/lang/StringBuilder;"⟩ : MethodName)) hown (mvT hZ w_58) (mvT hZ w_59) (notFace_of_selects (args := #[]) (mvT hZ w_61)) (mvT hZ w_61) (mvT hZ w_60) (by decide) (backOf (W := 3) (rmSBa l Z a0 hw [] a25 b25 kb25 (31 : Int32) (own_lb own_pre) b13 vb_21 kv_21 (16 : Int32) ([]) (0 : Int32) zc h25 n0 zl41 A25 Fv25 Fc25 Pp30 F31 F32 F33 F34 F35 F36 F37 F38 P5 hzc (fK : own_fit (own_lb own_pre) (31 : Int32)) (fA : own_fit [] (0 : Int32)) (by simp only [List.length_append, List.length_nil, own_prel]; omega) (by simp only [List.length_append, List.length_nil, own_prel]; decide) (cA : own_cap [] (16 : Int32)) ge18 ge39 ne40 (Ne.symm (hne25 _ Sf28).1) (Ne.symm (hne25 _ Sf28).2)) hZ w_62 w_41 (by decide) (by decide)) q42a q42c (g := (mkF m 15 #[.val (.ref so)] [(.ref a25), (.ref b13), (.ref a9), (.ref b6), (.ref b6)])) rfl (by rw [hml]; rfl) (Steps.refl _) (argsL := [(.ref a25)]) (rest := [(.ref a9), (.ref b6), (.ref b6)]) (lenOf pd_h63c63b4d rfl) rfl (by show 2 * 0 + _ ≤ _; exact Nat.le_of_eq rfl) (hb hby d7_15) (fun _ _ => ⟨rfl, e25, (by decide : 7 + 1 ≤ _), (by decide : 190 + 142 ≤ _)⟩)
  dsimp only [Pt.U, Pt.locs, Pt.cells, Pt.slots] at X42 l42 y42 z42 st42 hQ42
  rw [l42, y42, z42] at X42
  obtain ⟨vb2_42, kv2_42, cp2_42, rfl, Nq42, Kp42, G42_0, G42_1, G42_2, G42_3, G42_4, G42_5, G42_6, H42_0, H42_1, H42_2, H42_3, H42_4⟩ := hQ42
  have N42 := Fr.app N21 Nq42
  refine own_goT st42 ?_
  have le_42 : h25.size ≤ T42.heap.size := Kp42.1
  have sz43 : h0.size ≤ vb_21 := by omega
  have K42 : Keep h0 T42.heap [] := Keep.trans K25 Kp42 (allS (Or.inr sz22) (allS (Or.inr sz43) all0))
  have Sf44 := Safe.keep Kp42 (allS Sf28 (allS Sf27 all0)) CH29.1 Sf26
  have Sf45 := Safe.keep Kp42 (allS Sf28 (allS Sf27 all0)) CH29.1 Sf27
  have Sf46 := Safe.keep Kp42 (allS Sf28 (allS Sf27 all0)) CH29.1 Sf28
  have CH47 := CHr.trans CH29 (CHr.keep Kp42 (allS Sf28 (allS Sf27 all0)) CH29.1)
  have lt_vb2_42 : vb2_42 < T42.heap.size := (G42_4).lt
  have Sv := Safe.keep Kp42 (allS Sf28 (allS Sf27 all0)) CH29.1 (own_safe_or H42_1 Sf27)
  have fB := own_fit.add fA fK (by simp only [List.length_append, List.length_nil, own_prel]; omega)
  refine own_go (fun _ => XS.aloadN X42.here hx rfl (hb hby d7_18) rfl rfl) ?_
  show ∃ t o, Steps p.tables e below (T42.setTop (mkF m 19 #[.val (.ref so)] [(.ref so), (.ref b13), (.ref a9), (.ref b6), (.ref b6)])) t ∧ _
  have F48 := (Exa.keep (Exa.ext E25 (Exa.keep (Exa.ext E13 (Exa.ext E9 (Exa.ext E6 P1))) Kp21)) Kp42)
  have ne49 : so ≠ b13 := own_ne (by omega)
  have ne50 : so ≠ vb_21 := own_ne (by omega)
  have F51 := (Fld.keep (Fld.ext E25 (Fld.keep (Fld.ext E13 (Fld.ext E9 (Fld.ext E6 P2))) Kp21 (ninS ne49 nin0))) Kp42 (ninS ne49 (ninS ne50 nin0)))
  have F52 := (Fld.keep (Fld.ext E25 (Fld.keep (Fld.ext E13 (Fld.ext E9 (Fld.ext E6 P3))) Kp21 (ninS ne49 nin0))) Kp42 (ninS ne49 (ninS ne50 nin0)))
  have ne53 : tb ≠ b13 := own_ne (by omega)
  have ne54 : tb ≠ vb_21 := own_ne (by omega)
  have F55 := (Arv.keep ((Arv.keep (((P4.ext E6).ext E9).ext E13) Kp21 (ninS ne53 nin0)).ext E25) Kp42 (ninS ne53 (ninS ne54 nin0)))
  have F56 := (Old.keep F38 Kp42 (allS ge18 (allS ge39 all0)))
  have zl57 : n0 ≤ T42.heap.size := by omega
  obtain ⟨cq58, kq58, q58a, q58b, q58c⟩ := isOf hZ rfl G42_0
  obtain ⟨_, _, ⟨T58, L58, k58, n58⟩, -, X58, ⟨Lc58, hQ58, l58, y58, z58⟩, st58⟩ := X42.virtualBack hx (y := (⟨"java/lang/StringBuilder", "append", "(Ljava/lang/String;)Ljava/lang/StringBuilder;"⟩ : MethodName)) (z := (⟨"java/lang/StringBuilder", "append", "(Ljava/lang/String;)Ljava/lang/StringBuilder;"⟩ : MethodName)) hown (mvT hZ w_58) (mvT hZ w_59) (notFace_of_selects (args := #[]) (mvT hZ w_61)) (mvT hZ w_61) (mvT hZ w_60) (by decide) (backOf (W := 3) (rmSBa l Z a0 hw [] so tb kb nn vs b13 vb2_42 kv2_42 cp2_42 (([] ++ (own_lb own_pre))) (((0 : Int32) + (31 : Int32))) zc T42.heap n0 zl57 F48 F51 F52 F55 G42_0 G42_1 G42_2 G42_3 G42_4 G42_5 G42_6 F56 P5 hzc (f1 : own_fit vs nn) (fB : own_fit ([] ++ (own_lb own_pre)) ((0 : Int32) + (31 : Int32))) (by simp only [List.length_append, List.length_nil, own_prel]; omega) (by have q := H42_0; unfold own_cap at q; simp only [List.length_append, List.length_nil, own_prel] at q ⊢; omega) (H42_0 : own_cap ([] ++ (own_lb own_pre)) cp2_42) ge18 H42_3 H42_2 ne49 ne53) hZ w_62 w_41 (by decide) (by decide)) q58a q58c (g := (mkF m 19 #[.val (.ref so)] [(.ref so), (.ref b13), (.ref a9), (.ref b6), (.ref b6)])) rfl (by rw [hml]; rfl) (Steps.refl _) (argsL := [(.ref so)]) (rest := [(.ref a9), (.ref b6), (.ref b6)]) (lenOf pd_h63c63b4d rfl) rfl (by show 2 * 0 + _ ≤ _; exact Nat.le_of_eq rfl) (hb hby d7_19) (fun _ _ => ⟨rfl, rfl, (by decide : 8 + 1 ≤ _), (by decide : 332 + 142 ≤ _)⟩)
  dsimp only [Pt.U, Pt.locs, Pt.cells, Pt.slots] at X58 l58 y58 z58 st58 hQ58
  rw [l58, y58, z58] at X58
  obtain ⟨vb2_58, kv2_58, cp2_58, rfl, Nq58, Kp58, G58_0, G58_1, G58_2, G58_3, G58_4, G58_5, G58_6, H58_0, H58_1, H58_2, H58_3, H58_4⟩ := hQ58
  have N58 := Fr.app N42 Nq58
  refine own_goT st58 ?_
  have le_58 : T42.heap.size ≤ T58.heap.size := Kp58.1
  have sz59 : h0.size ≤ vb2_42 := by omega
  have K58 : Keep h0 T58.heap [] := Keep.trans K42 Kp58 (allS (Or.inr sz22) (allS (Or.inr sz59) all0))
  have Sf60 := Safe.keep Kp58 (allS Sf46 (allS Sv all0)) CH47.1 Sf44
  have Sf61 := Safe.keep Kp58 (allS Sf46 (allS Sv all0)) CH47.1 Sf46
  have Sf62 := Safe.keep Kp58 (allS Sf46 (allS Sv all0)) CH47.1 Sv
  have CH63 := CHr.trans CH47 (CHr.keep Kp58 (allS Sf46 (allS Sv all0)) CH47.1)
  have lt_vb2_58 : vb2_58 < T58.heap.size := (G58_4).lt
  have fC := own_fit.add fB f1 (by simp only [List.length_append, List.length_nil, own_prel]; omega)
  show ∃ t o, Steps p.tables e below (T58.setTop (mkF m 22 #[.val (.ref so)] [(.ref b13), (.ref a9), (.ref b6), (.ref b6)])) t ∧ _
  have F64 := (Old.keep F56 Kp58 (allS ge18 (allS H42_3 all0)))
  have zl65 : n0 ≤ T58.heap.size := by omega
  obtain ⟨cq66, kq66, q66a, q66b, q66c⟩ := isOf hZ rfl G58_0
  obtain ⟨_, _, ⟨T66, L66, k66, n66⟩, -, X66, ⟨Lc66, hQ66, l66, y66, z66⟩, st66⟩ := X58.virtualBack hx (y := (⟨"java/lang/StringBuilder", "toString", "()Ljava/lang/String;"⟩ : MethodName)) (z := (⟨"java/lang/StringBuilder", "toString", "()Ljava/lang/String;"⟩ : MethodName)) hown (mvT hZ (hw _ (List.mem_of_getElem? (i := 128) rfl))) (mvT hZ (hw _ (List.mem_of_getElem? (i := 129) rfl))) (notFace_of_selects (args := #[]) (mvT hZ w_131)) (mvT hZ w_131) (mvT hZ (hw _ (List.mem_of_getElem? (i := 130) rfl))) (by decide) (backOf (W := 3) (rmTs l Z a0 hw [] b13 vb2_58 kv2_58 cp2_58 ((([] ++ (own_lb own_pre)) ++ vs)) ((((0 : Int32) + (31 : Int32)) + nn)) zc T58.heap n0 zl65 G58_0 G58_1 G58_2 G58_3 G58_4 G58_5 G58_6 F64 P5 hzc (fC : own_fit (([] ++ (own_lb own_pre)) ++ vs) (((0 : Int32) + (31 : Int32)) + nn)) (H58_0 : own_cap (([] ++ (own_lb own_pre)) ++ vs) cp2_58)) hZ (hw _ (List.mem_of_getElem? (i := 132) rfl)) w_41 (by decide) (by decide)) q66a q66c (g := (mkF m 22 #[.val (.ref so)] [(.ref b13), (.ref a9), (.ref b6), (.ref b6)])) rfl (by rw [hml]; rfl) (Steps.refl _) (argsL := []) (rest := [(.ref a9), (.ref b6), (.ref b6)]) (lenOf pd__28_29Ljava_2flang_2fString_3b rfl) rfl (by show 2 * 0 + _ ≤ _; exact Nat.le_of_eq rfl) (hb hby d7_22) (fun _ _ => ⟨rfl, rfl, (by decide : 9 + 2 ≤ _), (by decide : 474 + 146 ≤ _)⟩)
  dsimp only [Pt.U, Pt.locs, Pt.cells, Pt.slots] at X66 l66 y66 z66 st66 hQ66
  rw [l66, y66, z66] at X66
  obtain ⟨b_66, tb_66, kb_66, rfl, Nq66, Kp66, G66_0, G66_1, G66_2, G66_3, H66_0, H66_1⟩ := hQ66
  have N66 := Fr.app N58 Nq66
  refine own_goT st66 ?_
  have le_66 : T58.heap.size ≤ T66.heap.size := Kp66.1
  have K66 : Keep h0 T66.heap [] := Keep.trans K58 Kp66 all0
  have Sf67 := Safe.keep Kp66 all0 CH63.1 Sf60
  have Sf68 := Safe.keep Kp66 all0 CH63.1 Sf61
  have Sf69 := Safe.keep Kp66 all0 CH63.1 Sf62
  have CH70 := CHr.trans CH63 (CHr.keep Kp66 all0 CH63.1)
  have lt_b_66 : b_66 < T66.heap.size := (G66_0).lt
  have lt_tb_66 : tb_66 < T66.heap.size := (G66_3).lt
  show ∃ t o, Steps p.tables e below (T66.setTop (mkF m 25 #[.val (.ref so)] [(.ref b_66), (.ref a9), (.ref b6), (.ref b6)])) t ∧ _
  have F71 := (Exa.keep (Exa.keep (Exa.keep (Exa.ext E25 (Exa.keep (Exa.ext E13 (Exa.ext E9 A6)) Kp21)) Kp42) Kp58) Kp66)
  have ne72 : b6 ≠ b13 := own_ne (by omega)
  have ne73 : b6 ≠ vb_21 := own_ne (by omega)
  have ne74 : b6 ≠ vb2_42 := own_ne (by omega)
  have F75 := (Fld.keep (Fld.keep (Fld.keep (Fld.ext E25 (Fld.keep (Fld.ext E13 (Fld.ext E9 F_code_b6)) Kp21 (ninS ne72 nin0))) Kp42 (ninS ne72 (ninS ne73 nin0))) Kp58 (ninS ne72 (ninS ne74 nin0))) Kp66 nin0)
  have F76 := (Fld.keep (Fld.keep (Fld.keep (Fld.ext E25 (Fld.keep (Fld.ext E13 (Fld.ext E9 F_message_b6)) Kp21 (ninS ne72 nin0))) Kp42 (ninS ne72 (ninS ne73 nin0))) Kp58 (ninS ne72 (ninS ne74 nin0))) Kp66 nin0)
  have F77 := (Old.keep F64 Kp66 all0)
  have ge78 : n0 ≤ b6 := by omega
  have zl79 : n0 ≤ T66.heap.size := by omega
  obtain ⟨_, _, ⟨T80, L80, k80, n80⟩, -, X80, ⟨Lc80, hQ80, l80, y80, z80⟩, st80⟩ := X66.specialBack hx (y := (⟨"com/example/earnest_roster/earnestroster/ApiError", "<init>", "(Ljava/lang/String;Ljava/lang/String;)V"⟩ : MethodName)) rfl hown (mvT hZ (hw _ (List.mem_of_getElem? (i := 170) rfl))) (mvT hZ (hw _ (List.mem_of_getElem? (i := 171) rfl))) (mvT hZ w_172) (by decide) (backOf (W := 1) (rmAI l Z a0 hw [] b6 a9 b_66 T66.heap n0 zl79 F71 F75 F76 F77 ge78) hZ w_172 w_32 (by decide) (by decide)) (g := (mkF m 25 #[.val (.ref so)] [(.ref b_66), (.ref a9), (.ref b6), (.ref b6)])) rfl (by rw [hml]; rfl) (Steps.refl _) (a := b6) (argsL := [(.ref a9), (.ref b_66)]) (rest := [(.ref b6)]) (lenOf pd__28Ljava_2flang_2fString_3bLjava_2flang_2fString_3b_29V rfl) rfl (by show 2 * 0 + _ ≤ _; exact Nat.le_of_eq rfl) (hb hby d7_25) (fun _ _ => ⟨rfl, rfl, (by decide : 11 + 0 ≤ _), (by decide : 620 + 0 ≤ _)⟩)
  dsimp only [Pt.U, Pt.locs, Pt.cells, Pt.slots] at X80 l80 y80 z80 st80 hQ80
  rw [l80, y80, z80] at X80
  obtain ⟨rfl, Nq80, Kp80, G80_0, G80_1, G80_2⟩ := hQ80
  have N80 := Fr.app N66 Nq80
  refine own_goT st80 ?_
  have le_80 : T66.heap.size ≤ T80.heap.size := Kp80.1
  have sz81 : h0.size ≤ b6 := by omega
  have K80 : Keep h0 T80.heap [] := Keep.trans K66 Kp80 (allS (Or.inr sz81) all0)
  have Sf82 := Safe.keep Kp80 (allS Sf67 all0) CH70.1 Sf67
  have Sf83 := Safe.keep Kp80 (allS Sf67 all0) CH70.1 Sf68
  have Sf84 := Safe.keep Kp80 (allS Sf67 all0) CH70.1 Sf69
  have CH85 := CHr.trans CH70 (CHr.keep Kp80 (allS Sf67 all0) CH70.1)
  show ∃ t o, Steps p.tables e below (T80.setTop (mkF m 28 #[.val (.ref so)] [(.ref b6)])) t ∧ _
  have F86 := (Exa.keep (Exa.keep (Exa.keep (Exa.keep (Exa.ext E25 (Exa.keep (Exa.ext E13 A9) Kp21)) Kp42) Kp58) Kp66) Kp80)
  have ne87 : a9 ≠ b13 := own_ne (by omega)
  have ne88 : a9 ≠ vb_21 := own_ne (by omega)
  have ne89 : a9 ≠ vb2_42 := own_ne (by omega)
  have F90 := (Fld.keep (Fld.keep (Fld.keep (Fld.keep (Fld.ext E25 (Fld.keep (Fld.ext E13 Fv9) Kp21 (ninS ne87 nin0))) Kp42 (ninS ne87 (ninS ne88 nin0))) Kp58 (ninS ne87 (ninS ne89 nin0))) Kp66 nin0) Kp80 (ninS (Ne.symm (hne9 _ Sf10).1) nin0))
  have F91 := (Fld.keep (Fld.keep (Fld.keep (Fld.keep (Fld.ext E25 (Fld.keep (Fld.ext E13 Fc9) Kp21 (ninS ne87 nin0))) Kp42 (ninS ne87 (ninS ne88 nin0))) Kp58 (ninS ne87 (ninS ne89 nin0))) Kp66 nin0) Kp80 (ninS (Ne.symm (hne9 _ Sf10).1) nin0))
  have ne92 : b9 ≠ b13 := own_ne (by omega)
  have ne93 : b9 ≠ vb_21 := own_ne (by omega)
  have ne94 : b9 ≠ vb2_42 := own_ne (by omega)
  have F95 := (Arv.keep (Arv.keep (Arv.keep (Arv.keep ((Arv.keep (Pn12.ext E13) Kp21 (ninS ne92 nin0)).ext E25) Kp42 (ninS ne92 (ninS ne93 nin0))) Kp58 (ninS ne92 (ninS ne94 nin0))) Kp66 nin0) Kp80 (ninS (Ne.symm (hne9 _ Sf10).2) nin0))
  have F96 := (Exa.keep G66_0 Kp80)
  have ne97 : b_66 ≠ b6 := own_ne (by omega)
  have F98 := (Fld.keep G66_1 Kp80 (ninS ne97 nin0))
  have F99 := (Fld.keep G66_2 Kp80 (ninS ne97 nin0))
  have ne100 : tb_66 ≠ b6 := own_ne (by omega)
  have F101 := (Arv.keep G66_3 Kp80 (ninS ne100 nin0))
  obtain ⟨fs, hr, hrun, hended, hW⟩ := Jvm.Stand.leaveW X80 hS (by omega) (v := some (.ref b6)) (fun h => by rw [Bd.returns] at h; cases h)
  have CHz : CHr Z own_EL s.vm s.heap T80.vm T80.heap := by rw [hh]; exact CHr.trans CH85 (CHv.at X80 hZ hEL CH85.1)
  refine ⟨_, _, ?_, hrun, hended, _, _, rfl, ?_, CHz, ⟨hW.1, hW.2.1, hW.2.2.1, hW.2.2.2.mono (by decide) (by decide)⟩⟩
  · jvm_step X80.here [X80.here.top, hx, (hb hby d7_28), X80.method', Bd.returns, Value.isRef, FieldType.isReference]
    first | (intro acts; rw [hr _ acts rfl rfl rfl]) | rw [hr _ _ rfl rfl rfl]
    exact Steps.refl _
  · show Q_rmNiL Z _ _ _ _ _ _ h0 n0 _ T80.heap _
    exact ⟨b6, a9, b9, kb9, b_66, tb_66, kb_66, (((0 : Int32) + (31 : Int32)) + nn), rfl, N80, K80, G80_0, G80_1, G80_2, F86, F90, F91, F95, F96, F98, F99, F101, fC⟩
theorem ef_rmNiU (m : MethodId) (x0 : Nat) : entryFrame m #[(.ref x0)] 1 = mkF m 0 #[.val (.ref x0)] [] := by first | (simp [entryFrame, mkF, argsToLocals, Value.category]; done) | rfl
def Q_rmNiU (Z : State) (so : Nat) (tb : Nat) (kb : ClassId) (vs : List Value) (zc : Int32) (gv : Value) (h0 : Heap) (n0 : Nat) (v : Option Value) (h : Heap) (L : List Loc) : Prop := ∃ (er : Nat), ∃ (ac : Nat), ∃ (ta : Nat), ∃ (ka : ClassId), ∃ (bm : Nat), ∃ (tm : Nat), ∃ (km : ClassId), ∃ (nm : Int32), v = some (.ref er) ∧ Fr n0 L ∧ Keep h0 h [] ∧ Exa Z h er "com/example/earnest_roster/earnestroster/ApiError" ∧ Fld Z h er "com/example/earnest_roster/earnestroster/ApiError" "code" "Ljava/lang/String;" (.ref ac) ∧ Fld Z h er "com/example/earnest_roster/earnestroster/ApiError" "message" "Ljava/lang/String;" (.ref bm) ∧ Exa Z h ac "java/lang/String" ∧ Fld Z h ac "java/lang/String" "value" "[B" (.ref ta) ∧ Fld Z h ac "java/lang/String" "coder" "B" (.int (0 : Int32)) ∧ Arv Z h ta ka .byte (9 : Int32) own_nf (.int (0 : Int32)) ∧ Exa Z h bm "java/lang/String" ∧ Fld Z h bm "java/lang/String" "value" "[B" (.ref tm) ∧ Fld Z h bm "java/lang/String" "coder" "B" (.int (1 : Int32)) ∧ Arv Z h tm km .byte nm ((own_u8 own_pre) ++ vs) (.int (0 : Int32)) ∧ (nm = (68 : Int32))
set_option maxRecDepth 65536 in
set_option maxHeartbeats 40000000 in
theorem rmNiU (l : Launch) (Z : State) (a0 : Array Value) (hw : ∀ d ∈ tables_1, d.before a0 Z = true) (ws : List Jvm.Cond) (so : Nat) (tb : Nat) (kb : ClassId) (vs : List Value) (zc : Int32) (gv : Value) (h0 : Heap) (n0 : Nat) (Z0 : n0 ≤ h0.size) (P1 : Exa Z h0 so "java/lang/String") (P2 : Fld Z h0 so "java/lang/String" "value" "[B" (.ref tb)) (P3 : Fld Z h0 so "java/lang/String" "coder" "B" (.int (1 : Int32))) (P4 : Arv Z h0 tb kb .byte (6 : Int32) vs (.int (0 : Int32))) (OLD : Old Z n0 h0) (P5 : Sta Z Z.heap "java/lang/String" "COMPACT_STRINGS" "Z" (.int zc)) (P6 : Sta Z Z.heap "java/lang/StringUTF16" "$assertionsDisabled" "Z" (.int (1 : Int32))) (P7 : Sta Z Z.heap "java/lang/StringUTF16" "HI_BYTE_SHIFT" "I" (.int (0 : Int32))) (P8 : Sta Z Z.heap "java/lang/StringUTF16" "LO_BYTE_SHIFT" "I" (.int (8 : Int32))) (P9 : Sta Z Z.heap "jdk/internal/util/Preconditions" "SIOOBE_FORMATTER" "Ljava/util/function/BiFunction;" gv) (hzc : ¬ (zc = (0 : Int32))) (hgv : gv.isRef = true) (f1 : own_fit vs (6 : Int32)) (hEL : EW Z a0 own_EL) :
    MetFree l (⟨"com/example/earnest_roster/earnestroster/ApiError", "noImportWithId", "(Ljava/lang/String;)Lcom/example/earnest_roster/earnestroster/ApiError;"⟩ : MethodName) (head1 (Jvm.Cond.code (⟨"com/example/earnest_roster/earnestroster/ApiError", "noImportWithId", "(Ljava/lang/String;)Lcom/example/earnest_roster/earnestroster/ApiError;"⟩ : MethodName) prog_1_method_3_code 1 (some (.object "com/example/earnest_roster/earnestroster/ApiError")) :: ws) ({ frames := 10, cells := 11, slots := 472, locals := 146 } : Room)) (fun a U => a = #[(.ref so)] ∧ Z.Warmed39 U.vm ∧ U.heap = h0 ∧ CHv Z own_EL U.vm h0) (fun _ _ _ _ _ => True) (fun _ U o U' => ∃ v L, o = .returned v ∧ Q_rmNiU Z so tb kb vs zc gv h0 n0 v U'.heap L ∧ CHr Z own_EL U.vm U.heap U'.vm U'.heap ∧ ReturnedEndW U o U' L ({ frames := 10, cells := 11, slots := 472, locals := 146 } : Room).cells ({ frames := 10, cells := 11, slots := 472, locals := 146 } : Room).slots) := by
  refine MetFree.of_bodySF (plainFor_of_name pn_com_example_earnest_roster_earnestroster_ApiError) hisR ?_
  intro p e s m args below meth c s₁ Bd hml0 hP hK
  obtain ⟨rfl, hZ, hh, hCH⟩ := hP
  have hx := Bd.exec
  have hby := Bd.bytes
  have hml : c.maxLocals = 1 := hml0
  have hown : s.vm.findClass "com/example/earnest_roster/earnestroster/ApiError" = some m.cls := findClass_of_methodNamed Bd.named
  have hnm := (name_of_methodNamed Bd.named Bd.method).1
  have X0 : Stand p l e ({ frames := 10, cells := 11, slots := 472, locals := 146 } : Room) (s.setVm s.vm) m #[(.ref so)] below meth c s₁ [] 0 0 := Stand.of_body Bd
  have e0 : s₁.heap = h0 := by rw [← hh, Bd.state]; rfl
  have N0 := Fr.nil n0
  have pre0 : ∀ t, Steps p.tables e below (s₁.setTop (mkF m 0 #[.val (.ref so)] [])) t → Steps p.tables e below (s₁.setTop (entryFrame m #[(.ref so)] 1)) t := fun t k => castTop (ef_rmNiU m so) k
  have hZ : Z.Warmed39 (s.setVm s.vm).vm := hZ
  have hown : (s.setVm s.vm).vm.findClass "com/example/earnest_roster/earnestroster/ApiError" = some m.cls := hown
  have hS : s.Since s.vm 0 := (State.WarmedH.refl s).since 0
  have CH0 : CHr Z own_EL s.vm h0 s.vm h0 := CHr.refl hCH
  have wS : ∀ a ∈ Bundle.stringAtoms, a.before a0 Z = true := fun d hd => hw d ((by decide +kernel : ∀ d ∈ Bundle.stringAtoms, d ∈ tables_1) d hd)
  have w_131 := hw _ (List.mem_of_getElem? (i := 131) rfl)
  have w_172 := hw _ (List.mem_of_getElem? (i := 172) rfl)
  have w_32 := hw _ (List.mem_of_getElem? (i := 32) rfl)
  have w_41 := hw _ (List.mem_of_getElem? (i := 41) rfl)
  have w_44 := hw _ (List.mem_of_getElem? (i := 44) rfl)
  have w_58 := hw _ (List.mem_of_getElem? (i := 58) rfl)
  have w_59 := hw _ (List.mem_of_getElem? (i := 59) rfl)
  have w_60 := hw _ (List.mem_of_getElem? (i := 60) rfl)
  have w_61 := hw _ (List.mem_of_getElem? (i := 61) rfl)
  have w_62 := hw _ (List.mem_of_getElem? (i := 62) rfl)
  have oz := OLD.1
  have lt_so : so < h0.size := P1.lt
  have lt_tb : tb < h0.size := P4.lt
  refine own_go (B := s₁.setTop (mkF m 0 #[.val (.ref so)] [])) pre0 ?_
  show ∃ t o, Steps p.tables e below (s₁.setTop (mkF m 0 #[.val (.ref so)] [])) t ∧ _
  obtain ⟨T10, h10, X10, e10, E10, A10, D10, -, st10⟩ := newO X0 hx hZ hown (hw _ (List.mem_of_getElem? (i := 34) rfl)) (hw _ (List.mem_of_getElem? (i := 35) rfl)) w_32 e0 (g := (mkF m 0 #[.val (.ref so)] [])) rfl (hb hby d7_0) (by decide) (by decide)
  obtain ⟨b10, g10⟩ : ∃ z, z = h0.size := ⟨_, rfl⟩
  rw [← g10] at A10 D10 st10
  refine own_go st10 ?_
  have le_10 : h0.size ≤ h10.size := E10.1
  have lt_b10 : b10 < h10.size := A10.lt
  have F_code_b10 : Fld Z h10 b10 "com/example/earnest_roster/earnestroster/ApiError" "code" "Ljava/lang/String;" .null := D10 (Or.inr (hw _ (List.mem_of_getElem? (i := 175) rfl))) (ty := (.object "java/lang/String")) (by decide)
  have F_message_b10 : Fld Z h10 b10 "com/example/earnest_roster/earnestroster/ApiError" "message" "Ljava/lang/String;" .null := D10 (Or.inr (hw _ (List.mem_of_getElem? (i := 177) rfl))) (ty := (.object "java/lang/String")) (by decide)
  have K10 : Keep h0 h10 [] := Keep.ext (Keep.refl h0 []) E10
  have CH11 := CHr.trans CH0 (CHr.ext E10 CH0.1)
  refine own_go (fun _ => XS.dup X10.here hx rfl (hb hby d7_3) rfl rfl) ?_
  have sf12 := Safe.exa (EL := own_EL) hZ.alike A10 (by decide) (by decide)
  obtain ⟨a13, T13, h13, kS13, b13, kb13, X13, e13, E13, hS, hk13, hZ, hown, A13, Fc13, Fv13, Av13, lta13, ltb13, cr13, -, hne13, st13⟩ := ldcCH X10 hx hZ hown (hw _ (List.mem_of_getElem? (i := 36) rfl)) wS e10 hS (Nat.zero_le _) hEL own_mem1 CH11.1 (vs := [(.int (110 : Int32)), (.int (111 : Int32)), (.int (116 : Int32)), (.int (95 : Int32)), (.int (102 : Int32)), (.int (111 : Int32)), (.int (117 : Int32)), (.int (110 : Int32)), (.int (100 : Int32))]) (z := 9) own_ct_6e_6f_74_5f_66_6f_75_6e_64 (by decide) rfl (g := (mkF m 4 #[.val (.ref so)] [(.ref b10), (.ref b10)])) rfl (hb hby d7_4) (n := 36) (by decide) (by decide) (by decide) (by decide)
  refine own_go st13 ?_
  have K13 : Keep h0 h13 [] := Keep.ext K10 E13
  have le_13 : h10.size ≤ h13.size := E13.1
  have Sf14 := CHr.safe cr13 (show (b10 : Nat) < h10.size by omega) sf12
  have CH15 := CHr.trans CH11 cr13
  have lt_a13 := own_ltn lta13
  have lt_b13 := own_ltn ltb13
  have Pn16 : Arv Z h13 b13 kb13 .byte (9 : Int32) own_nf (.int (0 : Int32)) := Av13
  show ∃ t o, Steps p.tables e below (T13.setTop (mkF m 6 #[.val (.ref so)] [(.ref a13), (.ref b10), (.ref b10)])) t ∧ _
  obtain ⟨T17, h17, X17, e17, E17, A17, D17, -, st17⟩ := newO X13 hx hZ hown (hw _ (List.mem_of_getElem? (i := 39) rfl)) (hw _ (List.mem_of_getElem? (i := 40) rfl)) w_41 e13 (g := (mkF m 6 #[.val (.ref so)] [(.ref a13), (.ref b10), (.ref b10)])) rfl (hb hby d7_6) (by decide) (by decide)
  obtain ⟨b17, g17⟩ : ∃ z, z = h13.size := ⟨_, rfl⟩
  rw [← g17] at A17 D17 st17
  refine own_go st17 ?_
  have le_17 : h13.size ≤ h17.size := E17.1
  have lt_b17 : b17 < h17.size := A17.lt
  have F_value_b17 : Fld Z h17 b17 "java/lang/AbstractStringBuilder" "value" "[B" .null := D17 (Or.inl (hw _ (List.mem_of_getElem? (i := 54) rfl))) (ty := (.array .byte)) (by decide)
  have F_coder_b17 : Fld Z h17 b17 "java/lang/AbstractStringBuilder" "coder" "B" (.int (0 : Int32)) := D17 (Or.inl (hw _ (List.mem_of_getElem? (i := 56) rfl))) (ty := .byte) (by decide)
  have F_count_b17 : Fld Z h17 b17 "java/lang/AbstractStringBuilder" "count" "I" (.int (0 : Int32)) := D17 (Or.inl (hw _ (List.mem_of_getElem? (i := 79) rfl))) (ty := .int) (by decide)
  have F_maybeLatin1_b17 : Fld Z h17 b17 "java/lang/AbstractStringBuilder" "maybeLatin1" "Z" (.int (0 : Int32)) := D17 (Or.inl (hw _ (List.mem_of_getElem? (i := 254) rfl))) (ty := .boolean) (by decide)
  have K17 : Keep h0 h17 [] := Keep.ext K13 E17
  have Sf18 := Safe.ext E17 CH15.1 Sf14
  have CH19 := CHr.trans CH15 (CHr.ext E17 CH15.1)
  refine own_go (fun _ => XS.dup X17.here hx rfl (hb hby d7_9) rfl rfl) ?_
  have sf20 := Safe.exa (EL := own_EL) hZ.alike A17 (by decide) (by decide)
  show ∃ t o, Steps p.tables e below (T17.setTop (mkF m 10 #[.val (.ref so)] [(.ref b17), (.ref b17), (.ref a13), (.ref b10), (.ref b10)])) t ∧ _
  have F21 := (((OLD.ext E10).ext E13).ext E17)
  have ge22 : n0 ≤ b17 := by omega
  have zl23 : n0 ≤ h17.size := by omega
  have sf24 := Safe.exa (EL := own_EL) hZ.alike A17 (by decide) (by decide)
  obtain ⟨_, _, ⟨T25, L25, k25, n25⟩, -, X25, ⟨Lc25, hQ25, l25, y25, z25⟩, st25⟩ := X17.specialBack hx (y := (⟨"java/lang/StringBuilder", "<init>", "()V"⟩ : MethodName)) rfl hown (mvT hZ (hw _ (List.mem_of_getElem? (i := 42) rfl))) (mvT hZ (hw _ (List.mem_of_getElem? (i := 43) rfl))) (mvT hZ w_44) (by decide) (backOf (W := 4) (rmSBI l Z a0 hw [] b17 zc h17 n0 zl23 A17 F_value_b17 F_coder_b17 F_count_b17 F_maybeLatin1_b17 F21 P5 hzc ge22) hZ w_44 w_41 (by decide) (by decide)) (g := (mkF m 10 #[.val (.ref so)] [(.ref b17), (.ref b17), (.ref a13), (.ref b10), (.ref b10)])) rfl (by rw [hml]; rfl) (Steps.refl _) (a := b17) (argsL := []) (rest := [(.ref b17), (.ref a13), (.ref b10), (.ref b10)]) (lenOf pd__28_29V rfl) rfl (by show 2 * 0 + _ ≤ _; exact Nat.le_of_eq rfl) (hb hby d7_10) (fun _ _ => ⟨rfl, e17, (by decide : 4 + 1 ≤ _), (by decide : 46 + 16 ≤ _)⟩)
  dsimp only [Pt.U, Pt.locs, Pt.cells, Pt.slots] at X25 l25 y25 z25 st25 hQ25
  rw [l25, y25, z25] at X25
  obtain ⟨vb_25, kv_25, rfl, Nq25, Kp25, G25_0, G25_1, G25_2, G25_3, G25_4, G25_5, G25_6, H25_0⟩ := hQ25
  have N25 := Fr.app N0 Nq25
  refine own_goT st25 ?_
  have le_25 : h17.size ≤ T25.heap.size := Kp25.1
  have sz26 : h0.size ≤ b17 := by omega
  have K25 : Keep h0 T25.heap [] := Keep.trans K17 Kp25 (allS (Or.inr sz26) all0)
  have Sf27 := Safe.keep Kp25 (allS sf24 all0) CH19.1 Sf18
  have CH28 := CHr.trans CH19 (CHr.keep Kp25 (allS sf24 all0) CH19.1)
  have lt_vb_25 : vb_25 < T25.heap.size := (G25_4).lt
  have Sfv := Safe.keep Kp25 (allS sf20 all0) CH19.1 (Safe.new (show h17.size ≤ (vb_25 : Nat) by omega))
  have Sfb := Safe.keep Kp25 (allS sf20 all0) CH19.1 sf20
  have fA : own_fit [] (0 : Int32) := rfl
  have cA : own_cap [] (16 : Int32) := ⟨by decide, by decide, Or.inl rfl⟩
  obtain ⟨a29, T29, h29, kS29, b29, kb29, X29, e29, E29, hS, hk29, hZ, hown, A29, Fc29, Fv29, Av29, lta29, ltb29, cr29, -, hne29, st29⟩ := ldcCH X25 hx hZ hown (hw _ (List.mem_of_getElem? (i := 57) rfl)) wS rfl hS (by omega) hEL own_mem2 CH28.1 (vs := [(.int (116 : Int32)), (.int (104 : Int32)), (.int (101 : Int32)), (.int (114 : Int32)), (.int (101 : Int32)), (.int (32 : Int32)), (.int (105 : Int32)), (.int (115 : Int32)), (.int (32 : Int32)), (.int (110 : Int32)), (.int (111 : Int32)), (.int (32 : Int32)), (.int (105 : Int32)), (.int (109 : Int32)), (.int (112 : Int32)), (.int (111 : Int32)), (.int (114 : Int32)), (.int (116 : Int32)), (.int (32 : Int32)), (.int (119 : Int32)), (.int (105 : Int32)), (.int (116 : Int32)), (.int (104 : Int32)), (.int (32 : Int32)), (.int (116 : Int32)), (.int (104 : Int32)), (.int (101 : Int32)), (.int (32 : Int32)), (.int (105 : Int32)), (.int (100 : Int32)), (.int (32 : Int32))]) (z := 31) own_ctw_57 (by decide) rfl (g := (mkF m 13 #[.val (.ref so)] [(.ref b17), (.ref a13), (.ref b10), (.ref b10)])) rfl (hb hby d7_13) (n := 124) (by decide) (by decide) (by decide) (by decide)
  refine own_go st29 ?_
  have K29 : Keep h0 h29 [] := Keep.ext K25 E29
  have le_29 : T25.heap.size ≤ h29.size := E29.1
  have Sf30 := CHr.safe cr29 (show (b10 : Nat) < T25.heap.size by omega) Sf27
  have Sf31 := CHr.safe cr29 (show (vb_25 : Nat) < T25.heap.size by omega) Sfv
  have Sf32 := CHr.safe cr29 (show (b17 : Nat) < T25.heap.size by omega) Sfb
  have CH33 := CHr.trans CH28 cr29
  have lt_a29 := own_ltn lta29
  have lt_b29 := own_ltn ltb29
  have Pp34 : Arv Z h29 b29 kb29 .byte (31 : Int32) (own_lb own_pre) (.int (0 : Int32)) := Av29
  have fK : own_fit (own_lb own_pre) (31 : Int32) := rfl
  show ∃ t o, Steps p.tables e below (T29.setTop (mkF m 15 #[.val (.ref so)] [(.ref a29), (.ref b17), (.ref a13), (.ref b10), (.ref b10)])) t ∧ _
  have F35 := (Exa.ext E29 G25_0)
  have F36 := (Fld.ext E29 G25_1)
  have F37 := (Fld.ext E29 G25_2)
  have F38 := (Fld.ext E29 G25_3)
  have F39 := (Exa.ext E29 G25_4)
  have F40 := (G25_5.ext E29)
  have F41 := (Fld.ext E29 G25_6)
  have F42 := ((Old.keep F21 Kp25 (allS ge22 all0)).ext E29)
  have ge43 : n0 ≤ vb_25 := by omega
  have ne44 : b17 ≠ vb_25 := own_ne (by omega)
  have zl45 : n0 ≤ h29.size := by omega
  obtain ⟨cq46, kq46, q46a, q46b, q46c⟩ := isOf hZ e29 F35
  obtain ⟨_, _, ⟨T46, L46, k46, n46⟩, -, X46, ⟨Lc46, hQ46, l46, y46, z46⟩, st46⟩ := X29.virtualBack hx (y := (⟨"java/lang/StringBuilder", "append", "(Ljava/lang/String;)Ljava/lang/StringBuilder;"⟩ : MethodName)) (z := (⟨"java/lang/StringBuilder", "append", "(Ljava/lang/String;)Ljava/lang/StringBuilder;"⟩ : MethodName)) hown (mvT hZ w_58) (mvT hZ w_59) (notFace_of_selects (args := #[]) (mvT hZ w_61)) (mvT hZ w_61) (mvT hZ w_60) (by decide) (backOf (W := 3) (rmSBa l Z a0 hw [] a29 b29 kb29 (31 : Int32) (own_lb own_pre) b17 vb_25 kv_25 (16 : Int32) ([]) (0 : Int32) zc h29 n0 zl45 A29 Fv29 Fc29 Pp34 F35 F36 F37 F38 F39 F40 F41 F42 P5 hzc (fK : own_fit (own_lb own_pre) (31 : Int32)) (fA : own_fit [] (0 : Int32)) (by simp only [List.length_append, List.length_nil, own_prel]; omega) (by simp only [List.length_append, List.length_nil, own_prel]; decide) (cA : own_cap [] (16 : Int32)) ge22 ge43 ne44 (Ne.symm (hne29 _ Sf32).1) (Ne.symm (hne29 _ Sf32).2)) hZ w_62 w_41 (by decide) (by decide)) q46a q46c (g := (mkF m 15 #[.val (.ref so)] [(.ref a29), (.ref b17), (.ref a13), (.ref b10), (.ref b10)])) rfl (by rw [hml]; rfl) (Steps.refl _) (argsL := [(.ref a29)]) (rest := [(.ref a13), (.ref b10), (.ref b10)]) (lenOf pd_h63c63b4d rfl) rfl (by show 2 * 0 + _ ≤ _; exact Nat.le_of_eq rfl) (hb hby d7_15) (fun _ _ => ⟨rfl, e29, (by decide : 7 + 1 ≤ _), (by decide : 190 + 142 ≤ _)⟩)
  dsimp only [Pt.U, Pt.locs, Pt.cells, Pt.slots] at X46 l46 y46 z46 st46 hQ46
  rw [l46, y46, z46] at X46
  obtain ⟨vb2_46, kv2_46, cp2_46, rfl, Nq46, Kp46, G46_0, G46_1, G46_2, G46_3, G46_4, G46_5, G46_6, H46_0, H46_1, H46_2, H46_3, H46_4⟩ := hQ46
  have N46 := Fr.app N25 Nq46
  refine own_goT st46 ?_
  have le_46 : h29.size ≤ T46.heap.size := Kp46.1
  have sz47 : h0.size ≤ vb_25 := by omega
  have K46 : Keep h0 T46.heap [] := Keep.trans K29 Kp46 (allS (Or.inr sz26) (allS (Or.inr sz47) all0))
  have Sf48 := Safe.keep Kp46 (allS Sf32 (allS Sf31 all0)) CH33.1 Sf30
  have Sf49 := Safe.keep Kp46 (allS Sf32 (allS Sf31 all0)) CH33.1 Sf31
  have Sf50 := Safe.keep Kp46 (allS Sf32 (allS Sf31 all0)) CH33.1 Sf32
  have CH51 := CHr.trans CH33 (CHr.keep Kp46 (allS Sf32 (allS Sf31 all0)) CH33.1)
  have lt_vb2_46 : vb2_46 < T46.heap.size := (G46_4).lt
  have Sv := Safe.keep Kp46 (allS Sf32 (allS Sf31 all0)) CH33.1 (own_safe_or H46_1 Sf31)
  have fB := own_fit.add fA fK (by simp only [List.length_append, List.length_nil, own_prel]; omega)
  have e34 := own_c34 H46_0 H46_4
  have V34 : Arv Z T46.heap vb2_46 kv2_46 .byte (34 : Int32) (own_lb own_pre) (.int (0 : Int32)) := by have q := G46_5; rw [e34] at q; exact q
  have F31 : Fld Z T46.heap b17 "java/lang/AbstractStringBuilder" "count" "I" (.int (31 : Int32)) := G46_3
  refine own_go (fun _ => XS.aloadN X46.here hx rfl (hb hby d7_18) rfl rfl) ?_
  show ∃ t o, Steps p.tables e below (T46.setTop (mkF m 19 #[.val (.ref so)] [(.ref so), (.ref b17), (.ref a13), (.ref b10), (.ref b10)])) t ∧ _
  have F52 := (Exa.keep (Exa.ext E29 (Exa.keep (Exa.ext E17 (Exa.ext E13 (Exa.ext E10 P1))) Kp25)) Kp46)
  have ne53 : so ≠ b17 := own_ne (by omega)
  have ne54 : so ≠ vb_25 := own_ne (by omega)
  have F55 := (Fld.keep (Fld.ext E29 (Fld.keep (Fld.ext E17 (Fld.ext E13 (Fld.ext E10 P2))) Kp25 (ninS ne53 nin0))) Kp46 (ninS ne53 (ninS ne54 nin0)))
  have F56 := (Fld.keep (Fld.ext E29 (Fld.keep (Fld.ext E17 (Fld.ext E13 (Fld.ext E10 P3))) Kp25 (ninS ne53 nin0))) Kp46 (ninS ne53 (ninS ne54 nin0)))
  have ne57 : tb ≠ b17 := own_ne (by omega)
  have ne58 : tb ≠ vb_25 := own_ne (by omega)
  have F59 := (Arv.keep ((Arv.keep (((P4.ext E10).ext E13).ext E17) Kp25 (ninS ne57 nin0)).ext E29) Kp46 (ninS ne57 (ninS ne58 nin0)))
  have F60 := (Old.keep F42 Kp46 (allS ge22 (allS ge43 all0)))
  have zl61 : n0 ≤ T46.heap.size := by omega
  obtain ⟨cq62, kq62, q62a, q62b, q62c⟩ := isOf hZ rfl G46_0
  obtain ⟨_, _, ⟨T62, L62, k62, n62⟩, -, X62, ⟨Lc62, hQ62, l62, y62, z62⟩, st62⟩ := X46.virtualBack hx (y := (⟨"java/lang/StringBuilder", "append", "(Ljava/lang/String;)Ljava/lang/StringBuilder;"⟩ : MethodName)) (z := (⟨"java/lang/StringBuilder", "append", "(Ljava/lang/String;)Ljava/lang/StringBuilder;"⟩ : MethodName)) hown (mvT hZ w_58) (mvT hZ w_59) (notFace_of_selects (args := #[]) (mvT hZ w_61)) (mvT hZ w_61) (mvT hZ w_60) (by decide) (backOf (W := 3) (rmSBaU l Z a0 hw [] so tb kb vs b17 vb2_46 kv2_46 own_pre zc gv T46.heap n0 zl61 F52 F55 F56 F59 G46_0 G46_1 G46_2 F31 G46_4 V34 G46_6 F60 P5 P6 P7 P8 P9 hzc hgv f1 (rfl : own_fit (own_cv own_pre) (31 : Int32)) (own_preL : own_lat own_pre) (own_pre16 : ∀ x ∈ own_pre, own_c16 x) ge22 H46_3 H46_2 ne53 ne57) hZ w_62 w_41 (by decide) (by decide)) q62a q62c (g := (mkF m 19 #[.val (.ref so)] [(.ref so), (.ref b17), (.ref a13), (.ref b10), (.ref b10)])) rfl (by rw [hml]; rfl) (Steps.refl _) (argsL := [(.ref so)]) (rest := [(.ref a13), (.ref b10), (.ref b10)]) (lenOf pd_h63c63b4d rfl) rfl (by show 2 * 0 + _ ≤ _; exact Nat.le_of_eq rfl) (hb hby d7_19) (fun _ _ => ⟨rfl, rfl, (by decide : 8 + 1 ≤ _), (by decide : 332 + 68 ≤ _)⟩)
  dsimp only [Pt.U, Pt.locs, Pt.cells, Pt.slots] at X62 l62 y62 z62 st62 hQ62
  rw [l62, y62, z62] at X62
  obtain ⟨nb_62, kn_62, rfl, Nq62, Kp62, G62_0, G62_1, G62_2, G62_3, G62_4, G62_5, G62_6, H62_0⟩ := hQ62
  have N62 := Fr.app N46 Nq62
  refine own_goT st62 ?_
  have le_62 : T46.heap.size ≤ T62.heap.size := Kp62.1
  have K62 : Keep h0 T62.heap [] := Keep.trans K46 Kp62 (allS (Or.inr sz26) all0)
  have Sf63 := Safe.keep Kp62 (allS Sf50 all0) CH51.1 Sf48
  have Sf64 := Safe.keep Kp62 (allS Sf50 all0) CH51.1 Sf50
  have Sf65 := Safe.keep Kp62 (allS Sf50 all0) CH51.1 Sv
  have CH66 := CHr.trans CH51 (CHr.keep Kp62 (allS Sf50 all0) CH51.1)
  have lt_nb_62 : nb_62 < T62.heap.size := (G62_4).lt
  show ∃ t o, Steps p.tables e below (T62.setTop (mkF m 22 #[.val (.ref so)] [(.ref b17), (.ref a13), (.ref b10), (.ref b10)])) t ∧ _
  have F67 := (Old.keep F60 Kp62 (allS ge22 all0))
  have zl68 : n0 ≤ T62.heap.size := by omega
  obtain ⟨cq69, kq69, q69a, q69b, q69c⟩ := isOf hZ rfl G62_0
  obtain ⟨_, _, ⟨T69, L69, k69, n69⟩, -, X69, ⟨Lc69, hQ69, l69, y69, z69⟩, st69⟩ := X62.virtualBack hx (y := (⟨"java/lang/StringBuilder", "toString", "()Ljava/lang/String;"⟩ : MethodName)) (z := (⟨"java/lang/StringBuilder", "toString", "()Ljava/lang/String;"⟩ : MethodName)) hown (mvT hZ (hw _ (List.mem_of_getElem? (i := 128) rfl))) (mvT hZ (hw _ (List.mem_of_getElem? (i := 129) rfl))) (notFace_of_selects (args := #[]) (mvT hZ w_131)) (mvT hZ w_131) (mvT hZ (hw _ (List.mem_of_getElem? (i := 130) rfl))) (by decide) (backOf (W := 3) (rmTsU l Z a0 hw [] b17 nb_62 kn_62 (((own_u8 own_pre) ++ vs)) zc T62.heap n0 zl68 G62_0 G62_1 G62_2 G62_3 G62_4 G62_5 G62_6 F67 P5 hzc) hZ (hw _ (List.mem_of_getElem? (i := 132) rfl)) w_41 (by decide) (by decide)) q69a q69c (g := (mkF m 22 #[.val (.ref so)] [(.ref b17), (.ref a13), (.ref b10), (.ref b10)])) rfl (by rw [hml]; rfl) (Steps.refl _) (argsL := []) (rest := [(.ref a13), (.ref b10), (.ref b10)]) (lenOf pd__28_29Ljava_2flang_2fString_3b rfl) rfl (by show 2 * 0 + _ ≤ _; exact Nat.le_of_eq rfl) (hb hby d7_22) (fun _ _ => ⟨rfl, rfl, (by decide : 9 + 2 ≤ _), (by decide : 400 + 72 ≤ _)⟩)
  dsimp only [Pt.U, Pt.locs, Pt.cells, Pt.slots] at X69 l69 y69 z69 st69 hQ69
  rw [l69, y69, z69] at X69
  obtain ⟨b_69, tb_69, kb_69, rfl, Nq69, Kp69, G69_0, G69_1, G69_2, G69_3, H69_0, H69_1⟩ := hQ69
  have N69 := Fr.app N62 Nq69
  refine own_goT st69 ?_
  have le_69 : T62.heap.size ≤ T69.heap.size := Kp69.1
  have K69 : Keep h0 T69.heap [] := Keep.trans K62 Kp69 all0
  have Sf70 := Safe.keep Kp69 all0 CH66.1 Sf63
  have Sf71 := Safe.keep Kp69 all0 CH66.1 Sf64
  have Sf72 := Safe.keep Kp69 all0 CH66.1 Sf65
  have CH73 := CHr.trans CH66 (CHr.keep Kp69 all0 CH66.1)
  have lt_b_69 : b_69 < T69.heap.size := (G69_0).lt
  have lt_tb_69 : tb_69 < T69.heap.size := (G69_3).lt
  show ∃ t o, Steps p.tables e below (T69.setTop (mkF m 25 #[.val (.ref so)] [(.ref b_69), (.ref a13), (.ref b10), (.ref b10)])) t ∧ _
  have F74 := (Exa.keep (Exa.keep (Exa.keep (Exa.ext E29 (Exa.keep (Exa.ext E17 (Exa.ext E13 A10)) Kp25)) Kp46) Kp62) Kp69)
  have ne75 : b10 ≠ b17 := own_ne (by omega)
  have ne76 : b10 ≠ vb_25 := own_ne (by omega)
  have F77 := (Fld.keep (Fld.keep (Fld.keep (Fld.ext E29 (Fld.keep (Fld.ext E17 (Fld.ext E13 F_code_b10)) Kp25 (ninS ne75 nin0))) Kp46 (ninS ne75 (ninS ne76 nin0))) Kp62 (ninS ne75 nin0)) Kp69 nin0)
  have F78 := (Fld.keep (Fld.keep (Fld.keep (Fld.ext E29 (Fld.keep (Fld.ext E17 (Fld.ext E13 F_message_b10)) Kp25 (ninS ne75 nin0))) Kp46 (ninS ne75 (ninS ne76 nin0))) Kp62 (ninS ne75 nin0)) Kp69 nin0)
  have F79 := (Old.keep F67 Kp69 all0)
  have ge80 : n0 ≤ b10 := by omega
  have zl81 : n0 ≤ T69.heap.size := by omega
  obtain ⟨_, _, ⟨T82, L82, k82, n82⟩, -, X82, ⟨Lc82, hQ82, l82, y82, z82⟩, st82⟩ := X69.specialBack hx (y := (⟨"com/example/earnest_roster/earnestroster/ApiError", "<init>", "(Ljava/lang/String;Ljava/lang/String;)V"⟩ : MethodName)) rfl hown (mvT hZ (hw _ (List.mem_of_getElem? (i := 170) rfl))) (mvT hZ (hw _ (List.mem_of_getElem? (i := 171) rfl))) (mvT hZ w_172) (by decide) (backOf (W := 1) (rmAI l Z a0 hw [] b10 a13 b_69 T69.heap n0 zl81 F74 F77 F78 F79 ge80) hZ w_172 w_32 (by decide) (by decide)) (g := (mkF m 25 #[.val (.ref so)] [(.ref b_69), (.ref a13), (.ref b10), (.ref b10)])) rfl (by rw [hml]; rfl) (Steps.refl _) (a := b10) (argsL := [(.ref a13), (.ref b_69)]) (rest := [(.ref b10)]) (lenOf pd__28Ljava_2flang_2fString_3bLjava_2flang_2fString_3b_29V rfl) rfl (by show 2 * 0 + _ ≤ _; exact Nat.le_of_eq rfl) (hb hby d7_25) (fun _ _ => ⟨rfl, rfl, (by decide : 11 + 0 ≤ _), (by decide : 472 + 0 ≤ _)⟩)
  dsimp only [Pt.U, Pt.locs, Pt.cells, Pt.slots] at X82 l82 y82 z82 st82 hQ82
  rw [l82, y82, z82] at X82
  obtain ⟨rfl, Nq82, Kp82, G82_0, G82_1, G82_2⟩ := hQ82
  have N82 := Fr.app N69 Nq82
  refine own_goT st82 ?_
  have le_82 : T69.heap.size ≤ T82.heap.size := Kp82.1
  have sz83 : h0.size ≤ b10 := by omega
  have K82 : Keep h0 T82.heap [] := Keep.trans K69 Kp82 (allS (Or.inr sz83) all0)
  have Sf84 := Safe.keep Kp82 (allS Sf70 all0) CH73.1 Sf70
  have Sf85 := Safe.keep Kp82 (allS Sf70 all0) CH73.1 Sf71
  have Sf86 := Safe.keep Kp82 (allS Sf70 all0) CH73.1 Sf72
  have CH87 := CHr.trans CH73 (CHr.keep Kp82 (allS Sf70 all0) CH73.1)
  show ∃ t o, Steps p.tables e below (T82.setTop (mkF m 28 #[.val (.ref so)] [(.ref b10)])) t ∧ _
  have F88 := (Exa.keep (Exa.keep (Exa.keep (Exa.keep (Exa.ext E29 (Exa.keep (Exa.ext E17 A13) Kp25)) Kp46) Kp62) Kp69) Kp82)
  have ne89 : a13 ≠ b17 := own_ne (by omega)
  have ne90 : a13 ≠ vb_25 := own_ne (by omega)
  have F91 := (Fld.keep (Fld.keep (Fld.keep (Fld.keep (Fld.ext E29 (Fld.keep (Fld.ext E17 Fv13) Kp25 (ninS ne89 nin0))) Kp46 (ninS ne89 (ninS ne90 nin0))) Kp62 (ninS ne89 nin0)) Kp69 nin0) Kp82 (ninS (Ne.symm (hne13 _ Sf14).1) nin0))
  have F92 := (Fld.keep (Fld.keep (Fld.keep (Fld.keep (Fld.ext E29 (Fld.keep (Fld.ext E17 Fc13) Kp25 (ninS ne89 nin0))) Kp46 (ninS ne89 (ninS ne90 nin0))) Kp62 (ninS ne89 nin0)) Kp69 nin0) Kp82 (ninS (Ne.symm (hne13 _ Sf14).1) nin0))
  have ne93 : b13 ≠ b17 := own_ne (by omega)
  have ne94 : b13 ≠ vb_25 := own_ne (by omega)
  have F95 := (Arv.keep (Arv.keep (Arv.keep (Arv.keep ((Arv.keep (Pn16.ext E17) Kp25 (ninS ne93 nin0)).ext E29) Kp46 (ninS ne93 (ninS ne94 nin0))) Kp62 (ninS ne93 nin0)) Kp69 nin0) Kp82 (ninS (Ne.symm (hne13 _ Sf14).2) nin0))
  have F96 := (Exa.keep G69_0 Kp82)
  have ne97 : b_69 ≠ b10 := own_ne (by omega)
  have F98 := (Fld.keep G69_1 Kp82 (ninS ne97 nin0))
  have F99 := (Fld.keep G69_2 Kp82 (ninS ne97 nin0))
  have ne100 : tb_69 ≠ b10 := own_ne (by omega)
  have F101 := (Arv.keep G69_3 Kp82 (ninS ne100 nin0))
  obtain ⟨fs, hr, hrun, hended, hW⟩ := Jvm.Stand.leaveW X82 hS (by omega) (v := some (.ref b10)) (fun h => by rw [Bd.returns] at h; cases h)
  have CHz : CHr Z own_EL s.vm s.heap T82.vm T82.heap := by rw [hh]; exact CHr.trans CH87 (CHv.at X82 hZ hEL CH87.1)
  refine ⟨_, _, ?_, hrun, hended, _, _, rfl, ?_, CHz, ⟨hW.1, hW.2.1, hW.2.2.1, hW.2.2.2.mono (by decide) (by decide)⟩⟩
  · jvm_step X82.here [X82.here.top, hx, (hb hby d7_28), X82.method', Bd.returns, Value.isRef, FieldType.isReference]
    first | (intro acts; rw [hr _ acts rfl rfl rfl]) | rw [hr _ _ rfl rfl rfl]
    exact Steps.refl _
  · show Q_rmNiU Z _ _ _ _ _ _ h0 n0 _ T82.heap _
    exact ⟨b10, a13, b13, kb13, b_69, tb_69, kb_69, (68 : Int32), rfl, N82, K82, G82_0, G82_1, G82_2, F88, F91, F92, F95, F96, F98, F99, F101, rfl⟩
theorem ef_rm0 (m : MethodId) (x0 : Int32) (x1 : Int32) : entryFrame m #[(.int x0), (.int x1)] maxLocals = mkF m 0 #[.val (.int x0), .val (.int x1), .unset, .unset, .unset, .unset, .unset, .unset, .unset, .unset, .unset] [] := by first | (simp [entryFrame, mkF, argsToLocals, Value.category, maxLocals]; done) | rfl
theorem pd__28_5bC_29V : parseMethodDescriptor "([C)V" = some ⟨[(.array .char)], none⟩ := by decide +kernel
theorem pd_h3cd7e6a5 : parseMethodDescriptor "(Ljava/lang/String;)Lcom/example/earnest_roster/earnestroster/ApiError;" = some ⟨[(.object "java/lang/String")], some (.object "com/example/earnest_roster/earnestroster/ApiError")⟩ := by decide +kernel
theorem pd__28Ljava_2flang_2fObject_3b_29Z : parseMethodDescriptor "(Ljava/lang/Object;)Z" = some ⟨[(.object "java/lang/Object")], some .boolean⟩ := by decide +kernel
theorem pn_com_example_earnest_roster_earnestroster_ApiErrorNoImportWithIdPinLaw : plainName "com/example/earnest_roster/earnestroster/ApiErrorNoImportWithIdPinLaw" = true := by first | (simp [plainName, overriddenIn]; done) | decide +kernel
def Q_rm0 (Z : State) (x1 : Int32) (x2 : Int32) (zc : Int32) (gv : Value) (h0 : Heap) (n0 : Nat) (v : Option Value) (h : Heap) (L : List Loc) : Prop := v = some (.int (1 : Int32)) ∧ Fr n0 L ∧ Keep h0 h []
set_option maxRecDepth 65536 in
set_option maxHeartbeats 40000000 in
theorem rm0 (l : Launch) (Z : State) (a0 : Array Value) (hw : ∀ d ∈ tables_1, d.before a0 Z = true) (ws : List Jvm.Cond) (x1 : Int32) (x2 : Int32) (zc : Int32) (gv : Value) (h0 : Heap) (n0 : Nat) (Z0 : n0 ≤ h0.size) (OLD : Old Z n0 h0) (P1 : Sta Z Z.heap "java/lang/String" "COMPACT_STRINGS" "Z" (.int zc)) (P2 : Sta Z Z.heap "java/lang/StringUTF16" "$assertionsDisabled" "Z" (.int (1 : Int32))) (P3 : Sta Z Z.heap "java/lang/StringUTF16" "HI_BYTE_SHIFT" "I" (.int (0 : Int32))) (P4 : Sta Z Z.heap "java/lang/StringUTF16" "LO_BYTE_SHIFT" "I" (.int (8 : Int32))) (P5 : Sta Z Z.heap "jdk/internal/util/Preconditions" "SIOOBE_FORMATTER" "Ljava/util/function/BiFunction;" gv) (hzc : ¬ (zc = (0 : Int32))) (hgv : gv.isRef = true) (hEL : EW Z a0 own_EL) :
    MetFree l x (head1 (Jvm.Cond.code x code maxLocals ret :: ws) room_1) (fun a U => a = #[(.int x1), (.int x2)] ∧ Z.Warmed39 U.vm ∧ U.heap = h0 ∧ CHv Z own_EL U.vm h0) (fun _ _ _ _ _ => True) (fun _ U o U' => ∃ v L, o = .returned v ∧ Q_rm0 Z x1 x2 zc gv h0 n0 v U'.heap L ∧ CHr Z own_EL U.vm U.heap U'.vm U'.heap ∧ ReturnedEndW U o U' L room_1.cells room_1.slots) := by
  refine MetFree.of_bodySF (plainFor_of_name pn_com_example_earnest_roster_earnestroster_ApiErrorNoImportWithIdPinLaw) hisR ?_
  intro p e s m args below meth c s₁ Bd hml0 hP hK
  obtain ⟨rfl, hZ, hh, hCH⟩ := hP
  have hx := Bd.exec
  have hby := Bd.bytes
  have hml : c.maxLocals = 11 := hml0
  have hown : s.vm.findClass "com/example/earnest_roster/earnestroster/ApiErrorNoImportWithIdPinLaw" = some m.cls := findClass_of_methodNamed Bd.named
  have hnm := (name_of_methodNamed Bd.named Bd.method).1
  have X0 : Stand p l e room_1 (s.setVm s.vm) m #[(.int x1), (.int x2)] below meth c s₁ [] 0 0 := Stand.of_body Bd
  have e0 : s₁.heap = h0 := by rw [← hh, Bd.state]; rfl
  have N0 := Fr.nil n0
  have pre0 : ∀ t, Steps p.tables e below (s₁.setTop (mkF m 0 #[.val (.int x1), .val (.int x2), .unset, .unset, .unset, .unset, .unset, .unset, .unset, .unset, .unset] [])) t → Steps p.tables e below (s₁.setTop (entryFrame m #[(.int x1), (.int x2)] maxLocals)) t := fun t k => castTop (ef_rm0 m x1 x2) k
  have hZ : Z.Warmed39 (s.setVm s.vm).vm := hZ
  have hown : (s.setVm s.vm).vm.findClass "com/example/earnest_roster/earnestroster/ApiErrorNoImportWithIdPinLaw" = some m.cls := hown
  have hS : s.Since s.vm 0 := (State.WarmedH.refl s).since 0
  have CH0 : CHr Z own_EL s.vm h0 s.vm h0 := CHr.refl hCH
  have wS : ∀ a ∈ Bundle.stringAtoms, a.before a0 Z = true := fun d hd => hw d ((by decide +kernel : ∀ d ∈ Bundle.stringAtoms, d ∈ tables_1) d hd)
  have w_0 := hw _ (List.mem_of_getElem? (i := 0) rfl)
  have w_1 := hw _ (List.mem_of_getElem? (i := 1) rfl)
  have w_185 := hw _ (List.mem_of_getElem? (i := 185) rfl)
  have w_186 := hw _ (List.mem_of_getElem? (i := 186) rfl)
  have w_187 := hw _ (List.mem_of_getElem? (i := 187) rfl)
  have w_188 := hw _ (List.mem_of_getElem? (i := 188) rfl)
  have w_189 := hw _ (List.mem_of_getElem? (i := 189) rfl)
  have w_190 := hw _ (List.mem_of_getElem? (i := 190) rfl)
  have w_191 := hw _ (List.mem_of_getElem? (i := 191) rfl)
  have w_192 := hw _ (List.mem_of_getElem? (i := 192) rfl)
  have w_193 := hw _ (List.mem_of_getElem? (i := 193) rfl)
  have w_194 := hw _ (List.mem_of_getElem? (i := 194) rfl)
  have w_195 := hw _ (List.mem_of_getElem? (i := 195) rfl)
  have w_196 := hw _ (List.mem_of_getElem? (i := 196) rfl)
  have w_197 := hw _ (List.mem_of_getElem? (i := 197) rfl)
  have w_198 := hw _ (List.mem_of_getElem? (i := 198) rfl)
  have w_199 := hw _ (List.mem_of_getElem? (i := 199) rfl)
  have w_2 := hw _ (List.mem_of_getElem? (i := 2) rfl)
  have w_200 := hw _ (List.mem_of_getElem? (i := 200) rfl)
  have w_206 := hw _ (List.mem_of_getElem? (i := 206) rfl)
  have w_27 := hw _ (List.mem_of_getElem? (i := 27) rfl)
  have w_29 := hw _ (List.mem_of_getElem? (i := 29) rfl)
  have w_3 := hw _ (List.mem_of_getElem? (i := 3) rfl)
  have w_30 := hw _ (List.mem_of_getElem? (i := 30) rfl)
  have w_31 := hw _ (List.mem_of_getElem? (i := 31) rfl)
  have w_32 := hw _ (List.mem_of_getElem? (i := 32) rfl)
  have w_33 := hw _ (List.mem_of_getElem? (i := 33) rfl)
  have w_35 := hw _ (List.mem_of_getElem? (i := 35) rfl)
  have w_4 := hw _ (List.mem_of_getElem? (i := 4) rfl)
  have w_5 := hw _ (List.mem_of_getElem? (i := 5) rfl)
  have w_6 := hw _ (List.mem_of_getElem? (i := 6) rfl)
  have oz := OLD.1
  refine own_go (B := s₁.setTop (mkF m 0 #[.val (.int x1), .val (.int x2), .unset, .unset, .unset, .unset, .unset, .unset, .unset, .unset, .unset] [])) pre0 ?_
  show ∃ t o, Steps p.tables e below (s₁.setTop (mkF m 0 #[.val (.int x1), .val (.int x2), .unset, .unset, .unset, .unset, .unset, .unset, .unset, .unset, .unset] [])) t ∧ _
  refine own_go (fun _ => XS.iloadN X0.here hx rfl (hb hby at_0) rfl) ?_
  refine own_go (fun _ => XS.i2c X0.here hx rfl (hb hby at_1) rfl) ?_
  refine own_go (fun _ => XS.istoreN X0.here hx rfl (hb hby at_2) rfl (l' := #[.val (.int x1), .val (.int x2), .val (.int (x1.toUInt32.toUInt16.toUInt32.toInt32)), .unset, .unset, .unset, .unset, .unset, .unset, .unset, .unset]) rfl) ?_
  show ∃ t o, Steps p.tables e below (s₁.setTop (mkF m 3 #[.val (.int x1), .val (.int x2), .val (.int (x1.toUInt32.toUInt16.toUInt32.toInt32)), .unset, .unset, .unset, .unset, .unset, .unset, .unset, .unset] [])) t ∧ _
  obtain ⟨y0, e_y0⟩ : ∃ z : Int32, z = (x1.toUInt32.toUInt16.toUInt32.toInt32) := ⟨_, rfl⟩
  rw [← e_y0]
  have r_y0 : own_c16 y0 := by rw [e_y0]; exact own_i16 _
  show ∃ t o, Steps p.tables e below (s₁.setTop (mkF m 3 #[.val (.int x1), .val (.int x2), .val (.int y0), .unset, .unset, .unset, .unset, .unset, .unset, .unset, .unset] [])) t ∧ _
  refine own_go (fun _ => XS.iloadN X0.here hx rfl (hb hby at_3) rfl) ?_
  refine own_go (fun _ => XS.bipush X0.here hx rfl (hb hby at_4)) ?_
  refine own_go (fun _ => XS.iushr X0.here hx rfl (hb hby at_6) rfl) ?_
  refine own_go (fun _ => XS.i2c X0.here hx rfl (hb hby at_7) rfl) ?_
  refine own_go (fun _ => XS.istoreN X0.here hx rfl (hb hby at_8) rfl (l' := #[.val (.int x1), .val (.int x2), .val (.int y0), .val (.int (((x1.toUInt32 >>> ((16 : Int32) &&& 31).toUInt32).toInt32).toUInt32.toUInt16.toUInt32.toInt32)), .unset, .unset, .unset, .unset, .unset, .unset, .unset]) rfl) ?_
  show ∃ t o, Steps p.tables e below (s₁.setTop (mkF m 9 #[.val (.int x1), .val (.int x2), .val (.int y0), .val (.int (((x1.toUInt32 >>> ((16 : Int32) &&& 31).toUInt32).toInt32).toUInt32.toUInt16.toUInt32.toInt32)), .unset, .unset, .unset, .unset, .unset, .unset, .unset] [])) t ∧ _
  obtain ⟨y1, e_y1⟩ : ∃ z : Int32, z = (((x1.toUInt32 >>> ((16 : Int32) &&& 31).toUInt32).toInt32).toUInt32.toUInt16.toUInt32.toInt32) := ⟨_, rfl⟩
  rw [← e_y1]
  have r_y1 : own_c16 y1 := by rw [e_y1]; exact own_i16 _
  show ∃ t o, Steps p.tables e below (s₁.setTop (mkF m 9 #[.val (.int x1), .val (.int x2), .val (.int y0), .val (.int y1), .unset, .unset, .unset, .unset, .unset, .unset, .unset] [])) t ∧ _
  refine own_go (fun _ => XS.iloadN X0.here hx rfl (hb hby at_9) rfl) ?_
  refine own_go (fun _ => XS.i2c X0.here hx rfl (hb hby at_10) rfl) ?_
  refine own_go (fun _ => XS.istore X0.here hx rfl (hb hby at_11) rfl (l' := #[.val (.int x1), .val (.int x2), .val (.int y0), .val (.int y1), .val (.int (x2.toUInt32.toUInt16.toUInt32.toInt32)), .unset, .unset, .unset, .unset, .unset, .unset]) rfl) ?_
  show ∃ t o, Steps p.tables e below (s₁.setTop (mkF m 13 #[.val (.int x1), .val (.int x2), .val (.int y0), .val (.int y1), .val (.int (x2.toUInt32.toUInt16.toUInt32.toInt32)), .unset, .unset, .unset, .unset, .unset, .unset] [])) t ∧ _
  obtain ⟨y2, e_y2⟩ : ∃ z : Int32, z = (x2.toUInt32.toUInt16.toUInt32.toInt32) := ⟨_, rfl⟩
  rw [← e_y2]
  have r_y2 : own_c16 y2 := by rw [e_y2]; exact own_i16 _
  show ∃ t o, Steps p.tables e below (s₁.setTop (mkF m 13 #[.val (.int x1), .val (.int x2), .val (.int y0), .val (.int y1), .val (.int y2), .unset, .unset, .unset, .unset, .unset, .unset] [])) t ∧ _
  obtain ⟨T6, h6, X6, e6, E6, A6, D6, -, st6⟩ := newO X0 hx hZ hown w_0 w_1 w_2 e0 (g := (mkF m 13 #[.val (.int x1), .val (.int x2), .val (.int y0), .val (.int y1), .val (.int y2), .unset, .unset, .unset, .unset, .unset, .unset] [])) rfl (hb hby at_13) (by decide) (by decide)
  obtain ⟨b6, g6⟩ : ∃ z, z = h0.size := ⟨_, rfl⟩
  rw [← g6] at A6 D6 st6
  refine own_go st6 ?_
  have le_6 : h0.size ≤ h6.size := E6.1
  have lt_b6 : b6 < h6.size := A6.lt
  have F_coder_b6 : Fld Z h6 b6 "java/lang/String" "coder" "B" (.int (0 : Int32)) := D6 (Or.inr w_27) (ty := .byte) (by decide)
  have F_value_b6 : Fld Z h6 b6 "java/lang/String" "value" "[B" .null := D6 (Or.inr w_29) (ty := (.array .byte)) (by decide)
  have K6 : Keep h0 h6 [] := Keep.ext (Keep.refl h0 []) E6
  have CH7 := CHr.trans CH0 (CHr.ext E6 CH0.1)
  refine own_go (fun _ => XS.dup X6.here hx rfl (hb hby at_16) rfl rfl) ?_
  refine own_go (fun _ => XS.iconst X6.here hx rfl (hb hby at_17)) ?_
  show ∃ t o, Steps p.tables e below (T6.setTop (mkF m 18 #[.val (.int x1), .val (.int x2), .val (.int y0), .val (.int y1), .val (.int y2), .unset, .unset, .unset, .unset, .unset, .unset] [(.int (3 : Int32)), (.ref b6), (.ref b6)])) t ∧ _
  obtain ⟨T8, h8, k8, X8, e8, E8, A8, st8⟩ := newP (aty := .char) X6 hx hZ w_3 e6 (g := (mkF m 18 #[.val (.int x1), .val (.int x2), .val (.int y0), .val (.int y1), .val (.int y2), .unset, .unset, .unset, .unset, .unset, .unset] [(.int (3 : Int32)), (.ref b6), (.ref b6)])) rfl (hb hby at_18) rfl (by decide) (cap := 3) (by decide) (by decide) (by decide) (by decide)
  obtain ⟨b8, g8⟩ : ∃ z, z = h6.size := ⟨_, rfl⟩
  rw [← g8] at A8 st8
  refine own_go st8 ?_
  have le_8 : h6.size ≤ h8.size := E8.1
  have lt_b8 : b8 < h8.size := A8.lt
  have V_b8 : Arv Z h8 b8 k8 .char (3 : Int32) [(.int (0 : Int32)), (.int (0 : Int32)), (.int (0 : Int32))] (.int (0 : Int32)) := (Arv.new A8 (by decide)).pad (pad_rep [] (.int (0 : Int32)) 3)
  have K8 : Keep h0 h8 [] := Keep.ext K6 E8
  have CH9 := CHr.trans CH7 (CHr.ext E8 CH7.1)
  refine own_go (fun _ => XS.dup X8.here hx rfl (hb hby at_20) rfl rfl) ?_
  refine own_go (fun _ => XS.iconst X8.here hx rfl (hb hby at_21)) ?_
  refine own_go (fun _ => XS.iloadN X8.here hx rfl (hb hby at_22) rfl) ?_
  obtain ⟨cl10, Ar10, q10, S10, N10, H10, G10⟩ := id V_b8
  have sf11 := Safe.arr (EL := own_EL) hZ.alike Ar10 (by decide)
  have hin10 : ¬ ((0 : Int32) < 0 ∨ cl10.slots.size ≤ ((0 : Int32)).toNatClampNeg) := inb_of S10 ⟨by decide, by decide⟩
  obtain ⟨T12, h12, X12, e12, W12, st12⟩ := stC X8 hx hZ e8 Ar10 (j := (0 : Int32)) hin10 (g := (mkF m 23 #[.val (.int x1), .val (.int x2), .val (.int y0), .val (.int y1), .val (.int y2), .unset, .unset, .unset, .unset, .unset, .unset] [(.int y0), (.int (0 : Int32)), (.ref b8), (.ref b8), (.ref b6), (.ref b6)])) rfl rfl (hb hby at_23)
  refine own_go st12 ?_
  have CH13 := CHr.trans CH9 (CHr.wr W12 sf11 CH9.1)
  have ge14 : n0 ≤ b8 := by omega
  have le_12 : h8.size ≤ h12.size := Nat.le_of_eq W12.size.symm
  have sz15 : h0.size ≤ b8 := by omega
  have K12 : Keep h0 h12 [] := Keep.wr K8 W12 (Or.inr sz15)
  have N12 := Fr.snoc X12 N0 ge14
  have V12 : Arv Z h12 b8 k8 .char (3 : Int32) [(.int (nar .char y0)), (.int (0 : Int32)), (.int (0 : Int32))] (.int (0 : Int32)) := Arv.set Ar10 q10 S10 N10 H10 G10 (fits_nar_char _) W12 0 rfl (Nat.le_of_ble_eq_true rfl)
  refine own_go (fun _ => XS.dup X12.here hx rfl (hb hby at_24) rfl rfl) ?_
  refine own_go (fun _ => XS.iconst X12.here hx rfl (hb hby at_25)) ?_
  refine own_go (fun _ => XS.iloadN X12.here hx rfl (hb hby at_26) rfl) ?_
  obtain ⟨cl16, Ar16, q16, S16, N16, H16, G16⟩ := id V12
  have sf17 := Safe.arr (EL := own_EL) hZ.alike Ar16 (by decide)
  have hin16 : ¬ ((1 : Int32) < 0 ∨ cl16.slots.size ≤ ((1 : Int32)).toNatClampNeg) := inb_of S16 ⟨by decide, by decide⟩
  obtain ⟨T18, h18, X18, e18, W18, st18⟩ := stC X12 hx hZ e12 Ar16 (j := (1 : Int32)) hin16 (g := (mkF m 27 #[.val (.int x1), .val (.int x2), .val (.int y0), .val (.int y1), .val (.int y2), .unset, .unset, .unset, .unset, .unset, .unset] [(.int y1), (.int (1 : Int32)), (.ref b8), (.ref b8), (.ref b6), (.ref b6)])) rfl rfl (hb hby at_27)
  refine own_go st18 ?_
  have CH19 := CHr.trans CH13 (CHr.wr W18 sf17 CH13.1)
  have le_18 : h12.size ≤ h18.size := Nat.le_of_eq W18.size.symm
  have K18 : Keep h0 h18 [] := Keep.wr K12 W18 (Or.inr sz15)
  have N18 := Fr.snoc X18 N12 ge14
  have V18 : Arv Z h18 b8 k8 .char (3 : Int32) [(.int (nar .char y0)), (.int (nar .char y1)), (.int (0 : Int32))] (.int (0 : Int32)) := Arv.set Ar16 q16 S16 N16 H16 G16 (fits_nar_char _) W18 1 rfl (Nat.le_of_ble_eq_true rfl)
  refine own_go (fun _ => XS.dup X18.here hx rfl (hb hby at_28) rfl rfl) ?_
  show ∃ t o, Steps p.tables e below (T18.setTop (mkF m 29 #[.val (.int x1), .val (.int x2), .val (.int y0), .val (.int y1), .val (.int y2), .unset, .unset, .unset, .unset, .unset, .unset] [(.ref b8), (.ref b8), (.ref b6), (.ref b6)])) t ∧ _
  refine own_go (fun _ => XS.iconst X18.here hx rfl (hb hby at_29)) ?_
  refine own_go (fun _ => XS.iload X18.here hx rfl (hb hby at_30) rfl) ?_
  obtain ⟨cl20, Ar20, q20, S20, N20, H20, G20⟩ := id V18
  have sf21 := Safe.arr (EL := own_EL) hZ.alike Ar20 (by decide)
  have hin20 : ¬ ((2 : Int32) < 0 ∨ cl20.slots.size ≤ ((2 : Int32)).toNatClampNeg) := inb_of S20 ⟨by decide, by decide⟩
  obtain ⟨T22, h22, X22, e22, W22, st22⟩ := stC X18 hx hZ e18 Ar20 (j := (2 : Int32)) hin20 (g := (mkF m 32 #[.val (.int x1), .val (.int x2), .val (.int y0), .val (.int y1), .val (.int y2), .unset, .unset, .unset, .unset, .unset, .unset] [(.int y2), (.int (2 : Int32)), (.ref b8), (.ref b8), (.ref b6), (.ref b6)])) rfl rfl (hb hby at_32)
  refine own_go st22 ?_
  have CH23 := CHr.trans CH19 (CHr.wr W22 sf21 CH19.1)
  have le_22 : h18.size ≤ h22.size := Nat.le_of_eq W22.size.symm
  have K22 : Keep h0 h22 [] := Keep.wr K18 W22 (Or.inr sz15)
  have N22 := Fr.snoc X22 N18 ge14
  have V22 : Arv Z h22 b8 k8 .char (3 : Int32) [(.int (nar .char y0)), (.int (nar .char y1)), (.int (nar .char y2))] (.int (0 : Int32)) := Arv.set Ar20 q20 S20 N20 H20 G20 (fits_nar_char _) W22 2 rfl (Nat.le_of_ble_eq_true rfl)
  show ∃ t o, Steps p.tables e below (T22.setTop (mkF m 33 #[.val (.int x1), .val (.int x2), .val (.int y0), .val (.int y1), .val (.int y2), .unset, .unset, .unset, .unset, .unset, .unset] [(.ref b8), (.ref b6), (.ref b6)])) t ∧ _
  have Vi : Arv Z h22 b8 k8 .char (3 : Int32) (own_cv [y0, y1, y2]) (.int (0 : Int32)) := by have q := V22; simp only [own_nar16 r_y0, own_nar16 r_y1, own_nar16 r_y2] at q; exact q
  have F24 := (Exa.wr W22 (Exa.wr W18 (Exa.wr W12 (Exa.ext E8 A6))))
  have ne25 : b6 ≠ b8 := own_ne (by omega)
  have F26 := (Fld.other W22 (Fld.other W18 (Fld.other W12 (Fld.ext E8 F_value_b6) (Or.inl ne25)) (Or.inl ne25)) (Or.inl ne25))
  have F27 := (Fld.other W22 (Fld.other W18 (Fld.other W12 (Fld.ext E8 F_coder_b6) (Or.inl ne25)) (Or.inl ne25)) (Or.inl ne25))
  have F28 := (Old.wr (Old.wr (Old.wr ((OLD.ext E6).ext E8) W12 ge14) W18 ge14) W22 ge14)
  have ge29 : n0 ≤ b6 := by omega
  have ne30 : b8 ≠ b6 := own_ne (by omega)
  have zl31 : n0 ≤ h22.size := by omega
  have sf32 := own_safe_null (EL := own_EL) hZ.alike F24 F26
  obtain ⟨_, _, ⟨T33, L33, k33, n33⟩, -, X33, ⟨Lc33, hQ33, l33, y33, z33⟩, st33⟩ := X22.specialBack hx (y := (⟨"java/lang/String", "<init>", "([C)V"⟩ : MethodName)) rfl hown (mvT hZ w_4) (mvT hZ w_5) (mvT hZ w_6) (by decide) (backOf (W := 1) (rmS1G l Z a0 hw [] b6 b8 k8 (3 : Int32) ([y0, y1, y2]) zc h22 n0 zl31 F24 F26 F27 Vi F28 P1 P2 P3 P4 hzc (rfl : own_fit (own_cv [y0, y1, y2]) (3 : Int32)) ((Nat.le_of_ble_eq_true rfl) : [y0, y1, y2].length ≤ 34) (own_all3 r_y0 r_y1 r_y2 : ∀ x ∈ [y0, y1, y2], own_c16 x) ((by decide) : 0 < (3 : Int32).toInt) ge29 ne30) hZ w_6 w_2 (by decide) (by decide)) (g := (mkF m 33 #[.val (.int x1), .val (.int x2), .val (.int y0), .val (.int y1), .val (.int y2), .unset, .unset, .unset, .unset, .unset, .unset] [(.ref b8), (.ref b6), (.ref b6)])) rfl (by rw [hml]; rfl) (Steps.refl _) (a := b6) (argsL := [(.ref b8)]) (rest := [(.ref b6)]) (lenOf pd__28_5bC_29V rfl) rfl (by show 2 * 0 + _ ≤ _; exact Nat.le_of_eq rfl) (hb hby at_33) (fun _ _ => ⟨rfl, e22, (by decide : 2 + 2 ≤ _), (by decide : 7 + 102 ≤ _)⟩)
  dsimp only [Pt.U, Pt.locs, Pt.cells, Pt.slots] at X33 l33 y33 z33 st33 hQ33
  rw [l33, y33, z33] at X33
  obtain ⟨tb_33, kb_33, nx_33, ls_33, cd_33, rfl, Nq33, Kp33, G33_0, G33_1, G33_2, G33_3, H33_0, H33_1⟩ := hQ33
  have N33 := Fr.app N22 Nq33
  refine own_goT st33 ?_
  have le_33 : h22.size ≤ T33.heap.size := Kp33.1
  have sz34 : h0.size ≤ b6 := by omega
  have K33 : Keep h0 T33.heap [] := Keep.trans K22 Kp33 (allS (Or.inr sz34) all0)
  have CH35 := CHr.trans CH23 (CHr.keep Kp33 (allS sf32 all0) CH23.1)
  have lt_tb_33 : tb_33 < T33.heap.size := (G33_3).lt
  refine own_go (fun _ => XS.astore X33.here hx rfl (hb hby at_36) rfl rfl (l' := #[.val (.int x1), .val (.int x2), .val (.int y0), .val (.int y1), .val (.int y2), .val (.ref b6), .unset, .unset, .unset, .unset, .unset]) rfl) ?_
  refine own_go (fun _ => XS.bipush X33.here hx rfl (hb hby at_38)) ?_
  show ∃ t o, Steps p.tables e below (T33.setTop (mkF m 40 #[.val (.int x1), .val (.int x2), .val (.int y0), .val (.int y1), .val (.int y2), .val (.ref b6), .unset, .unset, .unset, .unset, .unset] [(.int (34 : Int32))])) t ∧ _
  obtain ⟨T36, h36, k36, X36, e36, E36, A36, st36⟩ := newP (aty := .char) X33 hx hZ w_3 rfl (g := (mkF m 40 #[.val (.int x1), .val (.int x2), .val (.int y0), .val (.int y1), .val (.int y2), .val (.ref b6), .unset, .unset, .unset, .unset, .unset] [(.int (34 : Int32))])) rfl (hb hby at_40) rfl (by decide) (cap := 34) (by decide) (by decide) (by decide) (by decide)
  obtain ⟨b36, g36⟩ : ∃ z, z = T33.heap.size := ⟨_, rfl⟩
  rw [← g36] at A36 st36
  refine own_go st36 ?_
  have le_36 : T33.heap.size ≤ h36.size := E36.1
  have lt_b36 : b36 < h36.size := A36.lt
  have V_b36 : Arv Z h36 b36 k36 .char (34 : Int32) [(.int (0 : Int32)), (.int (0 : Int32)), (.int (0 : Int32)), (.int (0 : Int32)), (.int (0 : Int32)), (.int (0 : Int32)), (.int (0 : Int32)), (.int (0 : Int32)), (.int (0 : Int32)), (.int (0 : Int32)), (.int (0 : Int32)), (.int (0 : Int32)), (.int (0 : Int32)), (.int (0 : Int32)), (.int (0 : Int32)), (.int (0 : Int32)), (.int (0 : Int32)), (.int (0 : Int32)), (.int (0 : Int32)), (.int (0 : Int32)), (.int (0 : Int32)), (.int (0 : Int32)), (.int (0 : Int32)), (.int (0 : Int32)), (.int (0 : Int32)), (.int (0 : Int32)), (.int (0 : Int32)), (.int (0 : Int32)), (.int (0 : Int32)), (.int (0 : Int32)), (.int (0 : Int32)), (.int (0 : Int32)), (.int (0 : Int32)), (.int (0 : Int32))] (.int (0 : Int32)) := (Arv.new A36 (by decide)).pad (pad_rep [] (.int (0 : Int32)) 34)
  have K36 : Keep h0 h36 [] := Keep.ext K33 E36
  have CH37 := CHr.trans CH35 (CHr.ext E36 CH35.1)
  refine own_go (fun _ => XS.dup X36.here hx rfl (hb hby at_42) rfl rfl) ?_
  refine own_go (fun _ => XS.iconst X36.here hx rfl (hb hby at_43)) ?_
  refine own_go (fun _ => XS.bipush X36.here hx rfl (hb hby at_44)) ?_
  obtain ⟨cl38, Ar38, q38, S38, N38, H38, G38⟩ := id V_b36
  have sf39 := Safe.arr (EL := own_EL) hZ.alike Ar38 (by decide)
  have hin38 : ¬ ((0 : Int32) < 0 ∨ cl38.slots.size ≤ ((0 : Int32)).toNatClampNeg) := inb_of S38 ⟨by decide, by decide⟩
  obtain ⟨T40, h40, X40, e40, W40, st40⟩ := stC X36 hx hZ e36 Ar38 (j := (0 : Int32)) hin38 (g := (mkF m 46 #[.val (.int x1), .val (.int x2), .val (.int y0), .val (.int y1), .val (.int y2), .val (.ref b6), .unset, .unset, .unset, .unset, .unset] [(.int (116 : Int32)), (.int (0 : Int32)), (.ref b36), (.ref b36)])) rfl rfl (hb hby at_46)
  refine own_go st40 ?_
  have CH41 := CHr.trans CH37 (CHr.wr W40 sf39 CH37.1)
  have ge42 : n0 ≤ b36 := by omega
  have le_40 : h36.size ≤ h40.size := Nat.le_of_eq W40.size.symm
  have sz43 : h0.size ≤ b36 := by omega
  have K40 : Keep h0 h40 [] := Keep.wr K36 W40 (Or.inr sz43)
  have N40 := Fr.snoc X40 N33 ge42
  have V40 : Arv Z h40 b36 k36 .char (34 : Int32) [(.int (nar .char (116 : Int32))), (.int (0 : Int32)), (.int (0 : Int32)), (.int (0 : Int32)), (.int (0 : Int32)), (.int (0 : Int32)), (.int (0 : Int32)), (.int (0 : Int32)), (.int (0 : Int32)), (.int (0 : Int32)), (.int (0 : Int32)), (.int (0 : Int32)), (.int (0 : Int32)), (.int (0 : Int32)), (.int (0 : Int32)), (.int (0 : Int32)), (.int (0 : Int32)), (.int (0 : Int32)), (.int (0 : Int32)), (.int (0 : Int32)), (.int (0 : Int32)), (.int (0 : Int32)), (.int (0 : Int32)), (.int (0 : Int32)), (.int (0 : Int32)), (.int (0 : Int32)), (.int (0 : Int32)), (.int (0 : Int32)), (.int (0 : Int32)), (.int (0 : Int32)), (.int (0 : Int32)), (.int (0 : Int32)), (.int (0 : Int32)), (.int (0 : Int32))] (.int (0 : Int32)) := Arv.set Ar38 q38 S38 N38 H38 G38 (fits_nar_char _) W40 0 rfl (Nat.le_of_ble_eq_true rfl)
  refine own_go (fun _ => XS.dup X40.here hx rfl (hb hby at_47) rfl rfl) ?_
  refine own_go (fun _ => XS.iconst X40.here hx rfl (hb hby at_48)) ?_
  refine own_go (fun _ => XS.bipush X40.here hx rfl (hb hby at_49)) ?_
  obtain ⟨cl44, Ar44, q44, S44, N44, H44, G44⟩ := id V40
  have sf45 := Safe.arr (EL := own_EL) hZ.alike Ar44 (by decide)
  have hin44 : ¬ ((1 : Int32) < 0 ∨ cl44.slots.size ≤ ((1 : Int32)).toNatClampNeg) := inb_of S44 ⟨by decide, by decide⟩
  obtain ⟨T46, h46, X46, e46, W46, st46⟩ := stC X40 hx hZ e40 Ar44 (j := (1 : Int32)) hin44 (g := (mkF m 51 #[.val (.int x1), .val (.int x2), .val (.int y0), .val (.int y1), .val (.int y2), .val (.ref b6), .unset, .unset, .unset, .unset, .unset] [(.int (104 : Int32)), (.int (1 : Int32)), (.ref b36), (.ref b36)])) rfl rfl (hb hby at_51)
  refine own_go st46 ?_
  have CH47 := CHr.trans CH41 (CHr.wr W46 sf45 CH41.1)
  have le_46 : h40.size ≤ h46.size := Nat.le_of_eq W46.size.symm
  have K46 : Keep h0 h46 [] := Keep.wr K40 W46 (Or.inr sz43)
  have N46 := Fr.snoc X46 N40 ge42
  have V46 : Arv Z h46 b36 k36 .char (34 : Int32) [(.int (nar .char (116 : Int32))), (.int (nar .char (104 : Int32))), (.int (0 : Int32)), (.int (0 : Int32)), (.int (0 : Int32)), (.int (0 : Int32)), (.int (0 : Int32)), (.int (0 : Int32)), (.int (0 : Int32)), (.int (0 : Int32)), (.int (0 : Int32)), (.int (0 : Int32)), (.int (0 : Int32)), (.int (0 : Int32)), (.int (0 : Int32)), (.int (0 : Int32)), (.int (0 : Int32)), (.int (0 : Int32)), (.int (0 : Int32)), (.int (0 : Int32)), (.int (0 : Int32)), (.int (0 : Int32)), (.int (0 : Int32)), (.int (0 : Int32)), (.int (0 : Int32)), (.int (0 : Int32)), (.int (0 : Int32)), (.int (0 : Int32)), (.int (0 : Int32)), (.int (0 : Int32)), (.int (0 : Int32)), (.int (0 : Int32)), (.int (0 : Int32)), (.int (0 : Int32))] (.int (0 : Int32)) := Arv.set Ar44 q44 S44 N44 H44 G44 (fits_nar_char _) W46 1 rfl (Nat.le_of_ble_eq_true rfl)
  refine own_go (fun _ => XS.dup X46.here hx rfl (hb hby at_52) rfl rfl) ?_
  show ∃ t o, Steps p.tables e below (T46.setTop (mkF m 53 #[.val (.int x1), .val (.int x2), .val (.int y0), .val (.int y1), .val (.int y2), .val (.ref b6), .unset, .unset, .unset, .unset, .unset] [(.ref b36), (.ref b36)])) t ∧ _
  refine own_go (fun _ => XS.iconst X46.here hx rfl (hb hby at_53)) ?_
  refine own_go (fun _ => XS.bipush X46.here hx rfl (hb hby at_54)) ?_
  obtain ⟨cl48, Ar48, q48, S48, N48, H48, G48⟩ := id V46
  have sf49 := Safe.arr (EL := own_EL) hZ.alike Ar48 (by decide)
  have hin48 : ¬ ((2 : Int32) < 0 ∨ cl48.slots.size ≤ ((2 : Int32)).toNatClampNeg) := inb_of S48 ⟨by decide, by decide⟩
  obtain ⟨T50, h50, X50, e50, W50, st50⟩ := stC X46 hx hZ e46 Ar48 (j := (2 : Int32)) hin48 (g := (mkF m 56 #[.val (.int x1), .val (.int x2), .val (.int y0), .val (.int y1), .val (.int y2), .val (.ref b6), .unset, .unset, .unset, .unset, .unset] [(.int (101 : Int32)), (.int (2 : Int32)), (.ref b36), (.ref b36)])) rfl rfl (hb hby at_56)
  refine own_go st50 ?_
  have CH51 := CHr.trans CH47 (CHr.wr W50 sf49 CH47.1)
  have le_50 : h46.size ≤ h50.size := Nat.le_of_eq W50.size.symm
  have K50 : Keep h0 h50 [] := Keep.wr K46 W50 (Or.inr sz43)
  have N50 := Fr.snoc X50 N46 ge42
  have V50 : Arv Z h50 b36 k36 .char (34 : Int32) [(.int (nar .char (116 : Int32))), (.int (nar .char (104 : Int32))), (.int (nar .char (101 : Int32))), (.int (0 : Int32)), (.int (0 : Int32)), (.int (0 : Int32)), (.int (0 : Int32)), (.int (0 : Int32)), (.int (0 : Int32)), (.int (0 : Int32)), (.int (0 : Int32)), (.int (0 : Int32)), (.int (0 : Int32)), (.int (0 : Int32)), (.int (0 : Int32)), (.int (0 : Int32)), (.int (0 : Int32)), (.int (0 : Int32)), (.int (0 : Int32)), (.int (0 : Int32)), (.int (0 : Int32)), (.int (0 : Int32)), (.int (0 : Int32)), (.int (0 : Int32)), (.int (0 : Int32)), (.int (0 : Int32)), (.int (0 : Int32)), (.int (0 : Int32)), (.int (0 : Int32)), (.int (0 : Int32)), (.int (0 : Int32)), (.int (0 : Int32)), (.int (0 : Int32)), (.int (0 : Int32))] (.int (0 : Int32)) := Arv.set Ar48 q48 S48 N48 H48 G48 (fits_nar_char _) W50 2 rfl (Nat.le_of_ble_eq_true rfl)
  refine own_go (fun _ => XS.dup X50.here hx rfl (hb hby at_57) rfl rfl) ?_
  refine own_go (fun _ => XS.iconst X50.here hx rfl (hb hby at_58)) ?_
  refine own_go (fun _ => XS.bipush X50.here hx rfl (hb hby at_59)) ?_
  obtain ⟨cl52, Ar52, q52, S52, N52, H52, G52⟩ := id V50
  have sf53 := Safe.arr (EL := own_EL) hZ.alike Ar52 (by decide)
  have hin52 : ¬ ((3 : Int32) < 0 ∨ cl52.slots.size ≤ ((3 : Int32)).toNatClampNeg) := inb_of S52 ⟨by decide, by decide⟩
  obtain ⟨T54, h54, X54, e54, W54, st54⟩ := stC X50 hx hZ e50 Ar52 (j := (3 : Int32)) hin52 (g := (mkF m 61 #[.val (.int x1), .val (.int x2), .val (.int y0), .val (.int y1), .val (.int y2), .val (.ref b6), .unset, .unset, .unset, .unset, .unset] [(.int (114 : Int32)), (.int (3 : Int32)), (.ref b36), (.ref b36)])) rfl rfl (hb hby at_61)
  refine own_go st54 ?_
  have CH55 := CHr.trans CH51 (CHr.wr W54 sf53 CH51.1)
  have le_54 : h50.size ≤ h54.size := Nat.le_of_eq W54.size.symm
  have K54 : Keep h0 h54 [] := Keep.wr K50 W54 (Or.inr sz43)
  have N54 := Fr.snoc X54 N50 ge42
  have V54 : Arv Z h54 b36 k36 .char (34 : Int32) [(.int (nar .char (116 : Int32))), (.int (nar .char (104 : Int32))), (.int (nar .char (101 : Int32))), (.int (nar .char (114 : Int32))), (.int (0 : Int32)), (.int (0 : Int32)), (.int (0 : Int32)), (.int (0 : Int32)), (.int (0 : Int32)), (.int (0 : Int32)), (.int (0 : Int32)), (.int (0 : Int32)), (.int (0 : Int32)), (.int (0 : Int32)), (.int (0 : Int32)), (.int (0 : Int32)), (.int (0 : Int32)), (.int (0 : Int32)), (.int (0 : Int32)), (.int (0 : Int32)), (.int (0 : Int32)), (.int (0 : Int32)), (.int (0 : Int32)), (.int (0 : Int32)), (.int (0 : Int32)), (.int (0 : Int32)), (.int (0 : Int32)), (.int (0 : Int32)), (.int (0 : Int32)), (.int (0 : Int32)), (.int (0 : Int32)), (.int (0 : Int32)), (.int (0 : Int32)), (.int (0 : Int32))] (.int (0 : Int32)) := Arv.set Ar52 q52 S52 N52 H52 G52 (fits_nar_char _) W54 3 rfl (Nat.le_of_ble_eq_true rfl)
  refine own_go (fun _ => XS.dup X54.here hx rfl (hb hby at_62) rfl rfl) ?_
  refine own_go (fun _ => XS.iconst X54.here hx rfl (hb hby at_63)) ?_
  refine own_go (fun _ => XS.bipush X54.here hx rfl (hb hby at_64)) ?_
  show ∃ t o, Steps p.tables e below (T54.setTop (mkF m 66 #[.val (.int x1), .val (.int x2), .val (.int y0), .val (.int y1), .val (.int y2), .val (.ref b6), .unset, .unset, .unset, .unset, .unset] [(.int (101 : Int32)), (.int (4 : Int32)), (.ref b36), (.ref b36)])) t ∧ _
  obtain ⟨cl56, Ar56, q56, S56, N56, H56, G56⟩ := id V54
  have sf57 := Safe.arr (EL := own_EL) hZ.alike Ar56 (by decide)
  have hin56 : ¬ ((4 : Int32) < 0 ∨ cl56.slots.size ≤ ((4 : Int32)).toNatClampNeg) := inb_of S56 ⟨by decide, by decide⟩
  obtain ⟨T58, h58, X58, e58, W58, st58⟩ := stC X54 hx hZ e54 Ar56 (j := (4 : Int32)) hin56 (g := (mkF m 66 #[.val (.int x1), .val (.int x2), .val (.int y0), .val (.int y1), .val (.int y2), .val (.ref b6), .unset, .unset, .unset, .unset, .unset] [(.int (101 : Int32)), (.int (4 : Int32)), (.ref b36), (.ref b36)])) rfl rfl (hb hby at_66)
  refine own_go st58 ?_
  have CH59 := CHr.trans CH55 (CHr.wr W58 sf57 CH55.1)
  have le_58 : h54.size ≤ h58.size := Nat.le_of_eq W58.size.symm
  have K58 : Keep h0 h58 [] := Keep.wr K54 W58 (Or.inr sz43)
  have N58 := Fr.snoc X58 N54 ge42
  have V58 : Arv Z h58 b36 k36 .char (34 : Int32) [(.int (nar .char (116 : Int32))), (.int (nar .char (104 : Int32))), (.int (nar .char (101 : Int32))), (.int (nar .char (114 : Int32))), (.int (nar .char (101 : Int32))), (.int (0 : Int32)), (.int (0 : Int32)), (.int (0 : Int32)), (.int (0 : Int32)), (.int (0 : Int32)), (.int (0 : Int32)), (.int (0 : Int32)), (.int (0 : Int32)), (.int (0 : Int32)), (.int (0 : Int32)), (.int (0 : Int32)), (.int (0 : Int32)), (.int (0 : Int32)), (.int (0 : Int32)), (.int (0 : Int32)), (.int (0 : Int32)), (.int (0 : Int32)), (.int (0 : Int32)), (.int (0 : Int32)), (.int (0 : Int32)), (.int (0 : Int32)), (.int (0 : Int32)), (.int (0 : Int32)), (.int (0 : Int32)), (.int (0 : Int32)), (.int (0 : Int32)), (.int (0 : Int32)), (.int (0 : Int32)), (.int (0 : Int32))] (.int (0 : Int32)) := Arv.set Ar56 q56 S56 N56 H56 G56 (fits_nar_char _) W58 4 rfl (Nat.le_of_ble_eq_true rfl)
  refine own_go (fun _ => XS.dup X58.here hx rfl (hb hby at_67) rfl rfl) ?_
  refine own_go (fun _ => XS.iconst X58.here hx rfl (hb hby at_68)) ?_
  refine own_go (fun _ => XS.bipush X58.here hx rfl (hb hby at_69)) ?_
  obtain ⟨cl60, Ar60, q60, S60, N60, H60, G60⟩ := id V58
  have sf61 := Safe.arr (EL := own_EL) hZ.alike Ar60 (by decide)
  have hin60 : ¬ ((5 : Int32) < 0 ∨ cl60.slots.size ≤ ((5 : Int32)).toNatClampNeg) := inb_of S60 ⟨by decide, by decide⟩
  obtain ⟨T62, h62, X62, e62, W62, st62⟩ := stC X58 hx hZ e58 Ar60 (j := (5 : Int32)) hin60 (g := (mkF m 71 #[.val (.int x1), .val (.int x2), .val (.int y0), .val (.int y1), .val (.int y2), .val (.ref b6), .unset, .unset, .unset, .unset, .unset] [(.int (32 : Int32)), (.int (5 : Int32)), (.ref b36), (.ref b36)])) rfl rfl (hb hby at_71)
  refine own_go st62 ?_
  have CH63 := CHr.trans CH59 (CHr.wr W62 sf61 CH59.1)
  have le_62 : h58.size ≤ h62.size := Nat.le_of_eq W62.size.symm
  have K62 : Keep h0 h62 [] := Keep.wr K58 W62 (Or.inr sz43)
  have N62 := Fr.snoc X62 N58 ge42
  have V62 : Arv Z h62 b36 k36 .char (34 : Int32) [(.int (nar .char (116 : Int32))), (.int (nar .char (104 : Int32))), (.int (nar .char (101 : Int32))), (.int (nar .char (114 : Int32))), (.int (nar .char (101 : Int32))), (.int (nar .char (32 : Int32))), (.int (0 : Int32)), (.int (0 : Int32)), (.int (0 : Int32)), (.int (0 : Int32)), (.int (0 : Int32)), (.int (0 : Int32)), (.int (0 : Int32)), (.int (0 : Int32)), (.int (0 : Int32)), (.int (0 : Int32)), (.int (0 : Int32)), (.int (0 : Int32)), (.int (0 : Int32)), (.int (0 : Int32)), (.int (0 : Int32)), (.int (0 : Int32)), (.int (0 : Int32)), (.int (0 : Int32)), (.int (0 : Int32)), (.int (0 : Int32)), (.int (0 : Int32)), (.int (0 : Int32)), (.int (0 : Int32)), (.int (0 : Int32)), (.int (0 : Int32)), (.int (0 : Int32)), (.int (0 : Int32)), (.int (0 : Int32))] (.int (0 : Int32)) := Arv.set Ar60 q60 S60 N60 H60 G60 (fits_nar_char _) W62 5 rfl (Nat.le_of_ble_eq_true rfl)
  refine own_go (fun _ => XS.dup X62.here hx rfl (hb hby at_72) rfl rfl) ?_
  refine own_go (fun _ => XS.bipush X62.here hx rfl (hb hby at_73)) ?_
  refine own_go (fun _ => XS.bipush X62.here hx rfl (hb hby at_75)) ?_
  obtain ⟨cl64, Ar64, q64, S64, N64, H64, G64⟩ := id V62
  have sf65 := Safe.arr (EL := own_EL) hZ.alike Ar64 (by decide)
  have hin64 : ¬ ((6 : Int32) < 0 ∨ cl64.slots.size ≤ ((6 : Int32)).toNatClampNeg) := inb_of S64 ⟨by decide, by decide⟩
  obtain ⟨T66, h66, X66, e66, W66, st66⟩ := stC X62 hx hZ e62 Ar64 (j := (6 : Int32)) hin64 (g := (mkF m 77 #[.val (.int x1), .val (.int x2), .val (.int y0), .val (.int y1), .val (.int y2), .val (.ref b6), .unset, .unset, .unset, .unset, .unset] [(.int (105 : Int32)), (.int (6 : Int32)), (.ref b36), (.ref b36)])) rfl rfl (hb hby at_77)
  refine own_go st66 ?_
  have CH67 := CHr.trans CH63 (CHr.wr W66 sf65 CH63.1)
  have le_66 : h62.size ≤ h66.size := Nat.le_of_eq W66.size.symm
  have K66 : Keep h0 h66 [] := Keep.wr K62 W66 (Or.inr sz43)
  have N66 := Fr.snoc X66 N62 ge42
  have V66 : Arv Z h66 b36 k36 .char (34 : Int32) [(.int (nar .char (116 : Int32))), (.int (nar .char (104 : Int32))), (.int (nar .char (101 : Int32))), (.int (nar .char (114 : Int32))), (.int (nar .char (101 : Int32))), (.int (nar .char (32 : Int32))), (.int (nar .char (105 : Int32))), (.int (0 : Int32)), (.int (0 : Int32)), (.int (0 : Int32)), (.int (0 : Int32)), (.int (0 : Int32)), (.int (0 : Int32)), (.int (0 : Int32)), (.int (0 : Int32)), (.int (0 : Int32)), (.int (0 : Int32)), (.int (0 : Int32)), (.int (0 : Int32)), (.int (0 : Int32)), (.int (0 : Int32)), (.int (0 : Int32)), (.int (0 : Int32)), (.int (0 : Int32)), (.int (0 : Int32)), (.int (0 : Int32)), (.int (0 : Int32)), (.int (0 : Int32)), (.int (0 : Int32)), (.int (0 : Int32)), (.int (0 : Int32)), (.int (0 : Int32)), (.int (0 : Int32)), (.int (0 : Int32))] (.int (0 : Int32)) := Arv.set Ar64 q64 S64 N64 H64 G64 (fits_nar_char _) W66 6 rfl (Nat.le_of_ble_eq_true rfl)
  refine own_go (fun _ => XS.dup X66.here hx rfl (hb hby at_78) rfl rfl) ?_
  show ∃ t o, Steps p.tables e below (T66.setTop (mkF m 79 #[.val (.int x1), .val (.int x2), .val (.int y0), .val (.int y1), .val (.int y2), .val (.ref b6), .unset, .unset, .unset, .unset, .unset] [(.ref b36), (.ref b36)])) t ∧ _
  refine own_go (fun _ => XS.bipush X66.here hx rfl (hb hby at_79)) ?_
  refine own_go (fun _ => XS.bipush X66.here hx rfl (hb hby at_81)) ?_
  obtain ⟨cl68, Ar68, q68, S68, N68, H68, G68⟩ := id V66
  have sf69 := Safe.arr (EL := own_EL) hZ.alike Ar68 (by decide)
  have hin68 : ¬ ((7 : Int32) < 0 ∨ cl68.slots.size ≤ ((7 : Int32)).toNatClampNeg) := inb_of S68 ⟨by decide, by decide⟩
  obtain ⟨T70, h70, X70, e70, W70, st70⟩ := stC X66 hx hZ e66 Ar68 (j := (7 : Int32)) hin68 (g := (mkF m 83 #[.val (.int x1), .val (.int x2), .val (.int y0), .val (.int y1), .val (.int y2), .val (.ref b6), .unset, .unset, .unset, .unset, .unset] [(.int (115 : Int32)), (.int (7 : Int32)), (.ref b36), (.ref b36)])) rfl rfl (hb hby at_83)
  refine own_go st70 ?_
  have CH71 := CHr.trans CH67 (CHr.wr W70 sf69 CH67.1)
  have le_70 : h66.size ≤ h70.size := Nat.le_of_eq W70.size.symm
  have K70 : Keep h0 h70 [] := Keep.wr K66 W70 (Or.inr sz43)
  have N70 := Fr.snoc X70 N66 ge42
  have V70 : Arv Z h70 b36 k36 .char (34 : Int32) [(.int (nar .char (116 : Int32))), (.int (nar .char (104 : Int32))), (.int (nar .char (101 : Int32))), (.int (nar .char (114 : Int32))), (.int (nar .char (101 : Int32))), (.int (nar .char (32 : Int32))), (.int (nar .char (105 : Int32))), (.int (nar .char (115 : Int32))), (.int (0 : Int32)), (.int (0 : Int32)), (.int (0 : Int32)), (.int (0 : Int32)), (.int (0 : Int32)), (.int (0 : Int32)), (.int (0 : Int32)), (.int (0 : Int32)), (.int (0 : Int32)), (.int (0 : Int32)), (.int (0 : Int32)), (.int (0 : Int32)), (.int (0 : Int32)), (.int (0 : Int32)), (.int (0 : Int32)), (.int (0 : Int32)), (.int (0 : Int32)), (.int (0 : Int32)), (.int (0 : Int32)), (.int (0 : Int32)), (.int (0 : Int32)), (.int (0 : Int32)), (.int (0 : Int32)), (.int (0 : Int32)), (.int (0 : Int32)), (.int (0 : Int32))] (.int (0 : Int32)) := Arv.set Ar68 q68 S68 N68 H68 G68 (fits_nar_char _) W70 7 rfl (Nat.le_of_ble_eq_true rfl)
  refine own_go (fun _ => XS.dup X70.here hx rfl (hb hby at_84) rfl rfl) ?_
  refine own_go (fun _ => XS.bipush X70.here hx rfl (hb hby at_85)) ?_
  refine own_go (fun _ => XS.bipush X70.here hx rfl (hb hby at_87)) ?_
  obtain ⟨cl72, Ar72, q72, S72, N72, H72, G72⟩ := id V70
  have sf73 := Safe.arr (EL := own_EL) hZ.alike Ar72 (by decide)
  have hin72 : ¬ ((8 : Int32) < 0 ∨ cl72.slots.size ≤ ((8 : Int32)).toNatClampNeg) := inb_of S72 ⟨by decide, by decide⟩
  obtain ⟨T74, h74, X74, e74, W74, st74⟩ := stC X70 hx hZ e70 Ar72 (j := (8 : Int32)) hin72 (g := (mkF m 89 #[.val (.int x1), .val (.int x2), .val (.int y0), .val (.int y1), .val (.int y2), .val (.ref b6), .unset, .unset, .unset, .unset, .unset] [(.int (32 : Int32)), (.int (8 : Int32)), (.ref b36), (.ref b36)])) rfl rfl (hb hby at_89)
  refine own_go st74 ?_
  have CH75 := CHr.trans CH71 (CHr.wr W74 sf73 CH71.1)
  have le_74 : h70.size ≤ h74.size := Nat.le_of_eq W74.size.symm
  have K74 : Keep h0 h74 [] := Keep.wr K70 W74 (Or.inr sz43)
  have N74 := Fr.snoc X74 N70 ge42
  have V74 : Arv Z h74 b36 k36 .char (34 : Int32) [(.int (nar .char (116 : Int32))), (.int (nar .char (104 : Int32))), (.int (nar .char (101 : Int32))), (.int (nar .char (114 : Int32))), (.int (nar .char (101 : Int32))), (.int (nar .char (32 : Int32))), (.int (nar .char (105 : Int32))), (.int (nar .char (115 : Int32))), (.int (nar .char (32 : Int32))), (.int (0 : Int32)), (.int (0 : Int32)), (.int (0 : Int32)), (.int (0 : Int32)), (.int (0 : Int32)), (.int (0 : Int32)), (.int (0 : Int32)), (.int (0 : Int32)), (.int (0 : Int32)), (.int (0 : Int32)), (.int (0 : Int32)), (.int (0 : Int32)), (.int (0 : Int32)), (.int (0 : Int32)), (.int (0 : Int32)), (.int (0 : Int32)), (.int (0 : Int32)), (.int (0 : Int32)), (.int (0 : Int32)), (.int (0 : Int32)), (.int (0 : Int32)), (.int (0 : Int32)), (.int (0 : Int32)), (.int (0 : Int32)), (.int (0 : Int32))] (.int (0 : Int32)) := Arv.set Ar72 q72 S72 N72 H72 G72 (fits_nar_char _) W74 8 rfl (Nat.le_of_ble_eq_true rfl)
  refine own_go (fun _ => XS.dup X74.here hx rfl (hb hby at_90) rfl rfl) ?_
  refine own_go (fun _ => XS.bipush X74.here hx rfl (hb hby at_91)) ?_
  refine own_go (fun _ => XS.bipush X74.here hx rfl (hb hby at_93)) ?_
  show ∃ t o, Steps p.tables e below (T74.setTop (mkF m 95 #[.val (.int x1), .val (.int x2), .val (.int y0), .val (.int y1), .val (.int y2), .val (.ref b6), .unset, .unset, .unset, .unset, .unset] [(.int (110 : Int32)), (.int (9 : Int32)), (.ref b36), (.ref b36)])) t ∧ _
  obtain ⟨cl76, Ar76, q76, S76, N76, H76, G76⟩ := id V74
  have sf77 := Safe.arr (EL := own_EL) hZ.alike Ar76 (by decide)
  have hin76 : ¬ ((9 : Int32) < 0 ∨ cl76.slots.size ≤ ((9 : Int32)).toNatClampNeg) := inb_of S76 ⟨by decide, by decide⟩
  obtain ⟨T78, h78, X78, e78, W78, st78⟩ := stC X74 hx hZ e74 Ar76 (j := (9 : Int32)) hin76 (g := (mkF m 95 #[.val (.int x1), .val (.int x2), .val (.int y0), .val (.int y1), .val (.int y2), .val (.ref b6), .unset, .unset, .unset, .unset, .unset] [(.int (110 : Int32)), (.int (9 : Int32)), (.ref b36), (.ref b36)])) rfl rfl (hb hby at_95)
  refine own_go st78 ?_
  have CH79 := CHr.trans CH75 (CHr.wr W78 sf77 CH75.1)
  have le_78 : h74.size ≤ h78.size := Nat.le_of_eq W78.size.symm
  have K78 : Keep h0 h78 [] := Keep.wr K74 W78 (Or.inr sz43)
  have N78 := Fr.snoc X78 N74 ge42
  have V78 : Arv Z h78 b36 k36 .char (34 : Int32) [(.int (nar .char (116 : Int32))), (.int (nar .char (104 : Int32))), (.int (nar .char (101 : Int32))), (.int (nar .char (114 : Int32))), (.int (nar .char (101 : Int32))), (.int (nar .char (32 : Int32))), (.int (nar .char (105 : Int32))), (.int (nar .char (115 : Int32))), (.int (nar .char (32 : Int32))), (.int (nar .char (110 : Int32))), (.int (0 : Int32)), (.int (0 : Int32)), (.int (0 : Int32)), (.int (0 : Int32)), (.int (0 : Int32)), (.int (0 : Int32)), (.int (0 : Int32)), (.int (0 : Int32)), (.int (0 : Int32)), (.int (0 : Int32)), (.int (0 : Int32)), (.int (0 : Int32)), (.int (0 : Int32)), (.int (0 : Int32)), (.int (0 : Int32)), (.int (0 : Int32)), (.int (0 : Int32)), (.int (0 : Int32)), (.int (0 : Int32)), (.int (0 : Int32)), (.int (0 : Int32)), (.int (0 : Int32)), (.int (0 : Int32)), (.int (0 : Int32))] (.int (0 : Int32)) := Arv.set Ar76 q76 S76 N76 H76 G76 (fits_nar_char _) W78 9 rfl (Nat.le_of_ble_eq_true rfl)
  refine own_go (fun _ => XS.dup X78.here hx rfl (hb hby at_96) rfl rfl) ?_
  refine own_go (fun _ => XS.bipush X78.here hx rfl (hb hby at_97)) ?_
  refine own_go (fun _ => XS.bipush X78.here hx rfl (hb hby at_99)) ?_
  obtain ⟨cl80, Ar80, q80, S80, N80, H80, G80⟩ := id V78
  have sf81 := Safe.arr (EL := own_EL) hZ.alike Ar80 (by decide)
  have hin80 : ¬ ((10 : Int32) < 0 ∨ cl80.slots.size ≤ ((10 : Int32)).toNatClampNeg) := inb_of S80 ⟨by decide, by decide⟩
  obtain ⟨T82, h82, X82, e82, W82, st82⟩ := stC X78 hx hZ e78 Ar80 (j := (10 : Int32)) hin80 (g := (mkF m 101 #[.val (.int x1), .val (.int x2), .val (.int y0), .val (.int y1), .val (.int y2), .val (.ref b6), .unset, .unset, .unset, .unset, .unset] [(.int (111 : Int32)), (.int (10 : Int32)), (.ref b36), (.ref b36)])) rfl rfl (hb hby at_101)
  refine own_go st82 ?_
  have CH83 := CHr.trans CH79 (CHr.wr W82 sf81 CH79.1)
  have le_82 : h78.size ≤ h82.size := Nat.le_of_eq W82.size.symm
  have K82 : Keep h0 h82 [] := Keep.wr K78 W82 (Or.inr sz43)
  have N82 := Fr.snoc X82 N78 ge42
  have V82 : Arv Z h82 b36 k36 .char (34 : Int32) [(.int (nar .char (116 : Int32))), (.int (nar .char (104 : Int32))), (.int (nar .char (101 : Int32))), (.int (nar .char (114 : Int32))), (.int (nar .char (101 : Int32))), (.int (nar .char (32 : Int32))), (.int (nar .char (105 : Int32))), (.int (nar .char (115 : Int32))), (.int (nar .char (32 : Int32))), (.int (nar .char (110 : Int32))), (.int (nar .char (111 : Int32))), (.int (0 : Int32)), (.int (0 : Int32)), (.int (0 : Int32)), (.int (0 : Int32)), (.int (0 : Int32)), (.int (0 : Int32)), (.int (0 : Int32)), (.int (0 : Int32)), (.int (0 : Int32)), (.int (0 : Int32)), (.int (0 : Int32)), (.int (0 : Int32)), (.int (0 : Int32)), (.int (0 : Int32)), (.int (0 : Int32)), (.int (0 : Int32)), (.int (0 : Int32)), (.int (0 : Int32)), (.int (0 : Int32)), (.int (0 : Int32)), (.int (0 : Int32)), (.int (0 : Int32)), (.int (0 : Int32))] (.int (0 : Int32)) := Arv.set Ar80 q80 S80 N80 H80 G80 (fits_nar_char _) W82 10 rfl (Nat.le_of_ble_eq_true rfl)
  refine own_go (fun _ => XS.dup X82.here hx rfl (hb hby at_102) rfl rfl) ?_
  refine own_go (fun _ => XS.bipush X82.here hx rfl (hb hby at_103)) ?_
  refine own_go (fun _ => XS.bipush X82.here hx rfl (hb hby at_105)) ?_
  obtain ⟨cl84, Ar84, q84, S84, N84, H84, G84⟩ := id V82
  have sf85 := Safe.arr (EL := own_EL) hZ.alike Ar84 (by decide)
  have hin84 : ¬ ((11 : Int32) < 0 ∨ cl84.slots.size ≤ ((11 : Int32)).toNatClampNeg) := inb_of S84 ⟨by decide, by decide⟩
  obtain ⟨T86, h86, X86, e86, W86, st86⟩ := stC X82 hx hZ e82 Ar84 (j := (11 : Int32)) hin84 (g := (mkF m 107 #[.val (.int x1), .val (.int x2), .val (.int y0), .val (.int y1), .val (.int y2), .val (.ref b6), .unset, .unset, .unset, .unset, .unset] [(.int (32 : Int32)), (.int (11 : Int32)), (.ref b36), (.ref b36)])) rfl rfl (hb hby at_107)
  refine own_go st86 ?_
  have CH87 := CHr.trans CH83 (CHr.wr W86 sf85 CH83.1)
  have le_86 : h82.size ≤ h86.size := Nat.le_of_eq W86.size.symm
  have K86 : Keep h0 h86 [] := Keep.wr K82 W86 (Or.inr sz43)
  have N86 := Fr.snoc X86 N82 ge42
  have V86 : Arv Z h86 b36 k36 .char (34 : Int32) [(.int (nar .char (116 : Int32))), (.int (nar .char (104 : Int32))), (.int (nar .char (101 : Int32))), (.int (nar .char (114 : Int32))), (.int (nar .char (101 : Int32))), (.int (nar .char (32 : Int32))), (.int (nar .char (105 : Int32))), (.int (nar .char (115 : Int32))), (.int (nar .char (32 : Int32))), (.int (nar .char (110 : Int32))), (.int (nar .char (111 : Int32))), (.int (nar .char (32 : Int32))), (.int (0 : Int32)), (.int (0 : Int32)), (.int (0 : Int32)), (.int (0 : Int32)), (.int (0 : Int32)), (.int (0 : Int32)), (.int (0 : Int32)), (.int (0 : Int32)), (.int (0 : Int32)), (.int (0 : Int32)), (.int (0 : Int32)), (.int (0 : Int32)), (.int (0 : Int32)), (.int (0 : Int32)), (.int (0 : Int32)), (.int (0 : Int32)), (.int (0 : Int32)), (.int (0 : Int32)), (.int (0 : Int32)), (.int (0 : Int32)), (.int (0 : Int32)), (.int (0 : Int32))] (.int (0 : Int32)) := Arv.set Ar84 q84 S84 N84 H84 G84 (fits_nar_char _) W86 11 rfl (Nat.le_of_ble_eq_true rfl)
  refine own_go (fun _ => XS.dup X86.here hx rfl (hb hby at_108) rfl rfl) ?_
  show ∃ t o, Steps p.tables e below (T86.setTop (mkF m 109 #[.val (.int x1), .val (.int x2), .val (.int y0), .val (.int y1), .val (.int y2), .val (.ref b6), .unset, .unset, .unset, .unset, .unset] [(.ref b36), (.ref b36)])) t ∧ _
  refine own_go (fun _ => XS.bipush X86.here hx rfl (hb hby at_109)) ?_
  refine own_go (fun _ => XS.bipush X86.here hx rfl (hb hby at_111)) ?_
  obtain ⟨cl88, Ar88, q88, S88, N88, H88, G88⟩ := id V86
  have sf89 := Safe.arr (EL := own_EL) hZ.alike Ar88 (by decide)
  have hin88 : ¬ ((12 : Int32) < 0 ∨ cl88.slots.size ≤ ((12 : Int32)).toNatClampNeg) := inb_of S88 ⟨by decide, by decide⟩
  obtain ⟨T90, h90, X90, e90, W90, st90⟩ := stC X86 hx hZ e86 Ar88 (j := (12 : Int32)) hin88 (g := (mkF m 113 #[.val (.int x1), .val (.int x2), .val (.int y0), .val (.int y1), .val (.int y2), .val (.ref b6), .unset, .unset, .unset, .unset, .unset] [(.int (105 : Int32)), (.int (12 : Int32)), (.ref b36), (.ref b36)])) rfl rfl (hb hby at_113)
  refine own_go st90 ?_
  have CH91 := CHr.trans CH87 (CHr.wr W90 sf89 CH87.1)
  have le_90 : h86.size ≤ h90.size := Nat.le_of_eq W90.size.symm
  have K90 : Keep h0 h90 [] := Keep.wr K86 W90 (Or.inr sz43)
  have N90 := Fr.snoc X90 N86 ge42
  have V90 : Arv Z h90 b36 k36 .char (34 : Int32) [(.int (nar .char (116 : Int32))), (.int (nar .char (104 : Int32))), (.int (nar .char (101 : Int32))), (.int (nar .char (114 : Int32))), (.int (nar .char (101 : Int32))), (.int (nar .char (32 : Int32))), (.int (nar .char (105 : Int32))), (.int (nar .char (115 : Int32))), (.int (nar .char (32 : Int32))), (.int (nar .char (110 : Int32))), (.int (nar .char (111 : Int32))), (.int (nar .char (32 : Int32))), (.int (nar .char (105 : Int32))), (.int (0 : Int32)), (.int (0 : Int32)), (.int (0 : Int32)), (.int (0 : Int32)), (.int (0 : Int32)), (.int (0 : Int32)), (.int (0 : Int32)), (.int (0 : Int32)), (.int (0 : Int32)), (.int (0 : Int32)), (.int (0 : Int32)), (.int (0 : Int32)), (.int (0 : Int32)), (.int (0 : Int32)), (.int (0 : Int32)), (.int (0 : Int32)), (.int (0 : Int32)), (.int (0 : Int32)), (.int (0 : Int32)), (.int (0 : Int32)), (.int (0 : Int32))] (.int (0 : Int32)) := Arv.set Ar88 q88 S88 N88 H88 G88 (fits_nar_char _) W90 12 rfl (Nat.le_of_ble_eq_true rfl)
  refine own_go (fun _ => XS.dup X90.here hx rfl (hb hby at_114) rfl rfl) ?_
  refine own_go (fun _ => XS.bipush X90.here hx rfl (hb hby at_115)) ?_
  refine own_go (fun _ => XS.bipush X90.here hx rfl (hb hby at_117)) ?_
  obtain ⟨cl92, Ar92, q92, S92, N92, H92, G92⟩ := id V90
  have sf93 := Safe.arr (EL := own_EL) hZ.alike Ar92 (by decide)
  have hin92 : ¬ ((13 : Int32) < 0 ∨ cl92.slots.size ≤ ((13 : Int32)).toNatClampNeg) := inb_of S92 ⟨by decide, by decide⟩
  obtain ⟨T94, h94, X94, e94, W94, st94⟩ := stC X90 hx hZ e90 Ar92 (j := (13 : Int32)) hin92 (g := (mkF m 119 #[.val (.int x1), .val (.int x2), .val (.int y0), .val (.int y1), .val (.int y2), .val (.ref b6), .unset, .unset, .unset, .unset, .unset] [(.int (109 : Int32)), (.int (13 : Int32)), (.ref b36), (.ref b36)])) rfl rfl (hb hby at_119)
  refine own_go st94 ?_
  have CH95 := CHr.trans CH91 (CHr.wr W94 sf93 CH91.1)
  have le_94 : h90.size ≤ h94.size := Nat.le_of_eq W94.size.symm
  have K94 : Keep h0 h94 [] := Keep.wr K90 W94 (Or.inr sz43)
  have N94 := Fr.snoc X94 N90 ge42
  have V94 : Arv Z h94 b36 k36 .char (34 : Int32) [(.int (nar .char (116 : Int32))), (.int (nar .char (104 : Int32))), (.int (nar .char (101 : Int32))), (.int (nar .char (114 : Int32))), (.int (nar .char (101 : Int32))), (.int (nar .char (32 : Int32))), (.int (nar .char (105 : Int32))), (.int (nar .char (115 : Int32))), (.int (nar .char (32 : Int32))), (.int (nar .char (110 : Int32))), (.int (nar .char (111 : Int32))), (.int (nar .char (32 : Int32))), (.int (nar .char (105 : Int32))), (.int (nar .char (109 : Int32))), (.int (0 : Int32)), (.int (0 : Int32)), (.int (0 : Int32)), (.int (0 : Int32)), (.int (0 : Int32)), (.int (0 : Int32)), (.int (0 : Int32)), (.int (0 : Int32)), (.int (0 : Int32)), (.int (0 : Int32)), (.int (0 : Int32)), (.int (0 : Int32)), (.int (0 : Int32)), (.int (0 : Int32)), (.int (0 : Int32)), (.int (0 : Int32)), (.int (0 : Int32)), (.int (0 : Int32)), (.int (0 : Int32)), (.int (0 : Int32))] (.int (0 : Int32)) := Arv.set Ar92 q92 S92 N92 H92 G92 (fits_nar_char _) W94 13 rfl (Nat.le_of_ble_eq_true rfl)
  refine own_go (fun _ => XS.dup X94.here hx rfl (hb hby at_120) rfl rfl) ?_
  refine own_go (fun _ => XS.bipush X94.here hx rfl (hb hby at_121)) ?_
  refine own_go (fun _ => XS.bipush X94.here hx rfl (hb hby at_123)) ?_
  show ∃ t o, Steps p.tables e below (T94.setTop (mkF m 125 #[.val (.int x1), .val (.int x2), .val (.int y0), .val (.int y1), .val (.int y2), .val (.ref b6), .unset, .unset, .unset, .unset, .unset] [(.int (112 : Int32)), (.int (14 : Int32)), (.ref b36), (.ref b36)])) t ∧ _
  obtain ⟨cl96, Ar96, q96, S96, N96, H96, G96⟩ := id V94
  have sf97 := Safe.arr (EL := own_EL) hZ.alike Ar96 (by decide)
  have hin96 : ¬ ((14 : Int32) < 0 ∨ cl96.slots.size ≤ ((14 : Int32)).toNatClampNeg) := inb_of S96 ⟨by decide, by decide⟩
  obtain ⟨T98, h98, X98, e98, W98, st98⟩ := stC X94 hx hZ e94 Ar96 (j := (14 : Int32)) hin96 (g := (mkF m 125 #[.val (.int x1), .val (.int x2), .val (.int y0), .val (.int y1), .val (.int y2), .val (.ref b6), .unset, .unset, .unset, .unset, .unset] [(.int (112 : Int32)), (.int (14 : Int32)), (.ref b36), (.ref b36)])) rfl rfl (hb hby at_125)
  refine own_go st98 ?_
  have CH99 := CHr.trans CH95 (CHr.wr W98 sf97 CH95.1)
  have le_98 : h94.size ≤ h98.size := Nat.le_of_eq W98.size.symm
  have K98 : Keep h0 h98 [] := Keep.wr K94 W98 (Or.inr sz43)
  have N98 := Fr.snoc X98 N94 ge42
  have V98 : Arv Z h98 b36 k36 .char (34 : Int32) [(.int (nar .char (116 : Int32))), (.int (nar .char (104 : Int32))), (.int (nar .char (101 : Int32))), (.int (nar .char (114 : Int32))), (.int (nar .char (101 : Int32))), (.int (nar .char (32 : Int32))), (.int (nar .char (105 : Int32))), (.int (nar .char (115 : Int32))), (.int (nar .char (32 : Int32))), (.int (nar .char (110 : Int32))), (.int (nar .char (111 : Int32))), (.int (nar .char (32 : Int32))), (.int (nar .char (105 : Int32))), (.int (nar .char (109 : Int32))), (.int (nar .char (112 : Int32))), (.int (0 : Int32)), (.int (0 : Int32)), (.int (0 : Int32)), (.int (0 : Int32)), (.int (0 : Int32)), (.int (0 : Int32)), (.int (0 : Int32)), (.int (0 : Int32)), (.int (0 : Int32)), (.int (0 : Int32)), (.int (0 : Int32)), (.int (0 : Int32)), (.int (0 : Int32)), (.int (0 : Int32)), (.int (0 : Int32)), (.int (0 : Int32)), (.int (0 : Int32)), (.int (0 : Int32)), (.int (0 : Int32))] (.int (0 : Int32)) := Arv.set Ar96 q96 S96 N96 H96 G96 (fits_nar_char _) W98 14 rfl (Nat.le_of_ble_eq_true rfl)
  refine own_go (fun _ => XS.dup X98.here hx rfl (hb hby at_126) rfl rfl) ?_
  refine own_go (fun _ => XS.bipush X98.here hx rfl (hb hby at_127)) ?_
  refine own_go (fun _ => XS.bipush X98.here hx rfl (hb hby at_129)) ?_
  obtain ⟨cl100, Ar100, q100, S100, N100, H100, G100⟩ := id V98
  have sf101 := Safe.arr (EL := own_EL) hZ.alike Ar100 (by decide)
  have hin100 : ¬ ((15 : Int32) < 0 ∨ cl100.slots.size ≤ ((15 : Int32)).toNatClampNeg) := inb_of S100 ⟨by decide, by decide⟩
  obtain ⟨T102, h102, X102, e102, W102, st102⟩ := stC X98 hx hZ e98 Ar100 (j := (15 : Int32)) hin100 (g := (mkF m 131 #[.val (.int x1), .val (.int x2), .val (.int y0), .val (.int y1), .val (.int y2), .val (.ref b6), .unset, .unset, .unset, .unset, .unset] [(.int (111 : Int32)), (.int (15 : Int32)), (.ref b36), (.ref b36)])) rfl rfl (hb hby at_131)
  refine own_go st102 ?_
  have CH103 := CHr.trans CH99 (CHr.wr W102 sf101 CH99.1)
  have le_102 : h98.size ≤ h102.size := Nat.le_of_eq W102.size.symm
  have K102 : Keep h0 h102 [] := Keep.wr K98 W102 (Or.inr sz43)
  have N102 := Fr.snoc X102 N98 ge42
  have V102 : Arv Z h102 b36 k36 .char (34 : Int32) [(.int (nar .char (116 : Int32))), (.int (nar .char (104 : Int32))), (.int (nar .char (101 : Int32))), (.int (nar .char (114 : Int32))), (.int (nar .char (101 : Int32))), (.int (nar .char (32 : Int32))), (.int (nar .char (105 : Int32))), (.int (nar .char (115 : Int32))), (.int (nar .char (32 : Int32))), (.int (nar .char (110 : Int32))), (.int (nar .char (111 : Int32))), (.int (nar .char (32 : Int32))), (.int (nar .char (105 : Int32))), (.int (nar .char (109 : Int32))), (.int (nar .char (112 : Int32))), (.int (nar .char (111 : Int32))), (.int (0 : Int32)), (.int (0 : Int32)), (.int (0 : Int32)), (.int (0 : Int32)), (.int (0 : Int32)), (.int (0 : Int32)), (.int (0 : Int32)), (.int (0 : Int32)), (.int (0 : Int32)), (.int (0 : Int32)), (.int (0 : Int32)), (.int (0 : Int32)), (.int (0 : Int32)), (.int (0 : Int32)), (.int (0 : Int32)), (.int (0 : Int32)), (.int (0 : Int32)), (.int (0 : Int32))] (.int (0 : Int32)) := Arv.set Ar100 q100 S100 N100 H100 G100 (fits_nar_char _) W102 15 rfl (Nat.le_of_ble_eq_true rfl)
  refine own_go (fun _ => XS.dup X102.here hx rfl (hb hby at_132) rfl rfl) ?_
  refine own_go (fun _ => XS.bipush X102.here hx rfl (hb hby at_133)) ?_
  refine own_go (fun _ => XS.bipush X102.here hx rfl (hb hby at_135)) ?_
  obtain ⟨cl104, Ar104, q104, S104, N104, H104, G104⟩ := id V102
  have sf105 := Safe.arr (EL := own_EL) hZ.alike Ar104 (by decide)
  have hin104 : ¬ ((16 : Int32) < 0 ∨ cl104.slots.size ≤ ((16 : Int32)).toNatClampNeg) := inb_of S104 ⟨by decide, by decide⟩
  obtain ⟨T106, h106, X106, e106, W106, st106⟩ := stC X102 hx hZ e102 Ar104 (j := (16 : Int32)) hin104 (g := (mkF m 137 #[.val (.int x1), .val (.int x2), .val (.int y0), .val (.int y1), .val (.int y2), .val (.ref b6), .unset, .unset, .unset, .unset, .unset] [(.int (114 : Int32)), (.int (16 : Int32)), (.ref b36), (.ref b36)])) rfl rfl (hb hby at_137)
  refine own_go st106 ?_
  have CH107 := CHr.trans CH103 (CHr.wr W106 sf105 CH103.1)
  have le_106 : h102.size ≤ h106.size := Nat.le_of_eq W106.size.symm
  have K106 : Keep h0 h106 [] := Keep.wr K102 W106 (Or.inr sz43)
  have N106 := Fr.snoc X106 N102 ge42
  have V106 : Arv Z h106 b36 k36 .char (34 : Int32) [(.int (nar .char (116 : Int32))), (.int (nar .char (104 : Int32))), (.int (nar .char (101 : Int32))), (.int (nar .char (114 : Int32))), (.int (nar .char (101 : Int32))), (.int (nar .char (32 : Int32))), (.int (nar .char (105 : Int32))), (.int (nar .char (115 : Int32))), (.int (nar .char (32 : Int32))), (.int (nar .char (110 : Int32))), (.int (nar .char (111 : Int32))), (.int (nar .char (32 : Int32))), (.int (nar .char (105 : Int32))), (.int (nar .char (109 : Int32))), (.int (nar .char (112 : Int32))), (.int (nar .char (111 : Int32))), (.int (nar .char (114 : Int32))), (.int (0 : Int32)), (.int (0 : Int32)), (.int (0 : Int32)), (.int (0 : Int32)), (.int (0 : Int32)), (.int (0 : Int32)), (.int (0 : Int32)), (.int (0 : Int32)), (.int (0 : Int32)), (.int (0 : Int32)), (.int (0 : Int32)), (.int (0 : Int32)), (.int (0 : Int32)), (.int (0 : Int32)), (.int (0 : Int32)), (.int (0 : Int32)), (.int (0 : Int32))] (.int (0 : Int32)) := Arv.set Ar104 q104 S104 N104 H104 G104 (fits_nar_char _) W106 16 rfl (Nat.le_of_ble_eq_true rfl)
  refine own_go (fun _ => XS.dup X106.here hx rfl (hb hby at_138) rfl rfl) ?_
  show ∃ t o, Steps p.tables e below (T106.setTop (mkF m 139 #[.val (.int x1), .val (.int x2), .val (.int y0), .val (.int y1), .val (.int y2), .val (.ref b6), .unset, .unset, .unset, .unset, .unset] [(.ref b36), (.ref b36)])) t ∧ _
  refine own_go (fun _ => XS.bipush X106.here hx rfl (hb hby at_139)) ?_
  refine own_go (fun _ => XS.bipush X106.here hx rfl (hb hby at_141)) ?_
  obtain ⟨cl108, Ar108, q108, S108, N108, H108, G108⟩ := id V106
  have sf109 := Safe.arr (EL := own_EL) hZ.alike Ar108 (by decide)
  have hin108 : ¬ ((17 : Int32) < 0 ∨ cl108.slots.size ≤ ((17 : Int32)).toNatClampNeg) := inb_of S108 ⟨by decide, by decide⟩
  obtain ⟨T110, h110, X110, e110, W110, st110⟩ := stC X106 hx hZ e106 Ar108 (j := (17 : Int32)) hin108 (g := (mkF m 143 #[.val (.int x1), .val (.int x2), .val (.int y0), .val (.int y1), .val (.int y2), .val (.ref b6), .unset, .unset, .unset, .unset, .unset] [(.int (116 : Int32)), (.int (17 : Int32)), (.ref b36), (.ref b36)])) rfl rfl (hb hby at_143)
  refine own_go st110 ?_
  have CH111 := CHr.trans CH107 (CHr.wr W110 sf109 CH107.1)
  have le_110 : h106.size ≤ h110.size := Nat.le_of_eq W110.size.symm
  have K110 : Keep h0 h110 [] := Keep.wr K106 W110 (Or.inr sz43)
  have N110 := Fr.snoc X110 N106 ge42
  have V110 : Arv Z h110 b36 k36 .char (34 : Int32) [(.int (nar .char (116 : Int32))), (.int (nar .char (104 : Int32))), (.int (nar .char (101 : Int32))), (.int (nar .char (114 : Int32))), (.int (nar .char (101 : Int32))), (.int (nar .char (32 : Int32))), (.int (nar .char (105 : Int32))), (.int (nar .char (115 : Int32))), (.int (nar .char (32 : Int32))), (.int (nar .char (110 : Int32))), (.int (nar .char (111 : Int32))), (.int (nar .char (32 : Int32))), (.int (nar .char (105 : Int32))), (.int (nar .char (109 : Int32))), (.int (nar .char (112 : Int32))), (.int (nar .char (111 : Int32))), (.int (nar .char (114 : Int32))), (.int (nar .char (116 : Int32))), (.int (0 : Int32)), (.int (0 : Int32)), (.int (0 : Int32)), (.int (0 : Int32)), (.int (0 : Int32)), (.int (0 : Int32)), (.int (0 : Int32)), (.int (0 : Int32)), (.int (0 : Int32)), (.int (0 : Int32)), (.int (0 : Int32)), (.int (0 : Int32)), (.int (0 : Int32)), (.int (0 : Int32)), (.int (0 : Int32)), (.int (0 : Int32))] (.int (0 : Int32)) := Arv.set Ar108 q108 S108 N108 H108 G108 (fits_nar_char _) W110 17 rfl (Nat.le_of_ble_eq_true rfl)
  refine own_go (fun _ => XS.dup X110.here hx rfl (hb hby at_144) rfl rfl) ?_
  refine own_go (fun _ => XS.bipush X110.here hx rfl (hb hby at_145)) ?_
  refine own_go (fun _ => XS.bipush X110.here hx rfl (hb hby at_147)) ?_
  obtain ⟨cl112, Ar112, q112, S112, N112, H112, G112⟩ := id V110
  have sf113 := Safe.arr (EL := own_EL) hZ.alike Ar112 (by decide)
  have hin112 : ¬ ((18 : Int32) < 0 ∨ cl112.slots.size ≤ ((18 : Int32)).toNatClampNeg) := inb_of S112 ⟨by decide, by decide⟩
  obtain ⟨T114, h114, X114, e114, W114, st114⟩ := stC X110 hx hZ e110 Ar112 (j := (18 : Int32)) hin112 (g := (mkF m 149 #[.val (.int x1), .val (.int x2), .val (.int y0), .val (.int y1), .val (.int y2), .val (.ref b6), .unset, .unset, .unset, .unset, .unset] [(.int (32 : Int32)), (.int (18 : Int32)), (.ref b36), (.ref b36)])) rfl rfl (hb hby at_149)
  refine own_go st114 ?_
  have CH115 := CHr.trans CH111 (CHr.wr W114 sf113 CH111.1)
  have le_114 : h110.size ≤ h114.size := Nat.le_of_eq W114.size.symm
  have K114 : Keep h0 h114 [] := Keep.wr K110 W114 (Or.inr sz43)
  have N114 := Fr.snoc X114 N110 ge42
  have V114 : Arv Z h114 b36 k36 .char (34 : Int32) [(.int (nar .char (116 : Int32))), (.int (nar .char (104 : Int32))), (.int (nar .char (101 : Int32))), (.int (nar .char (114 : Int32))), (.int (nar .char (101 : Int32))), (.int (nar .char (32 : Int32))), (.int (nar .char (105 : Int32))), (.int (nar .char (115 : Int32))), (.int (nar .char (32 : Int32))), (.int (nar .char (110 : Int32))), (.int (nar .char (111 : Int32))), (.int (nar .char (32 : Int32))), (.int (nar .char (105 : Int32))), (.int (nar .char (109 : Int32))), (.int (nar .char (112 : Int32))), (.int (nar .char (111 : Int32))), (.int (nar .char (114 : Int32))), (.int (nar .char (116 : Int32))), (.int (nar .char (32 : Int32))), (.int (0 : Int32)), (.int (0 : Int32)), (.int (0 : Int32)), (.int (0 : Int32)), (.int (0 : Int32)), (.int (0 : Int32)), (.int (0 : Int32)), (.int (0 : Int32)), (.int (0 : Int32)), (.int (0 : Int32)), (.int (0 : Int32)), (.int (0 : Int32)), (.int (0 : Int32)), (.int (0 : Int32)), (.int (0 : Int32))] (.int (0 : Int32)) := Arv.set Ar112 q112 S112 N112 H112 G112 (fits_nar_char _) W114 18 rfl (Nat.le_of_ble_eq_true rfl)
  refine own_go (fun _ => XS.dup X114.here hx rfl (hb hby at_150) rfl rfl) ?_
  refine own_go (fun _ => XS.bipush X114.here hx rfl (hb hby at_151)) ?_
  refine own_go (fun _ => XS.bipush X114.here hx rfl (hb hby at_153)) ?_
  show ∃ t o, Steps p.tables e below (T114.setTop (mkF m 155 #[.val (.int x1), .val (.int x2), .val (.int y0), .val (.int y1), .val (.int y2), .val (.ref b6), .unset, .unset, .unset, .unset, .unset] [(.int (119 : Int32)), (.int (19 : Int32)), (.ref b36), (.ref b36)])) t ∧ _
  obtain ⟨cl116, Ar116, q116, S116, N116, H116, G116⟩ := id V114
  have sf117 := Safe.arr (EL := own_EL) hZ.alike Ar116 (by decide)
  have hin116 : ¬ ((19 : Int32) < 0 ∨ cl116.slots.size ≤ ((19 : Int32)).toNatClampNeg) := inb_of S116 ⟨by decide, by decide⟩
  obtain ⟨T118, h118, X118, e118, W118, st118⟩ := stC X114 hx hZ e114 Ar116 (j := (19 : Int32)) hin116 (g := (mkF m 155 #[.val (.int x1), .val (.int x2), .val (.int y0), .val (.int y1), .val (.int y2), .val (.ref b6), .unset, .unset, .unset, .unset, .unset] [(.int (119 : Int32)), (.int (19 : Int32)), (.ref b36), (.ref b36)])) rfl rfl (hb hby at_155)
  refine own_go st118 ?_
  have CH119 := CHr.trans CH115 (CHr.wr W118 sf117 CH115.1)
  have le_118 : h114.size ≤ h118.size := Nat.le_of_eq W118.size.symm
  have K118 : Keep h0 h118 [] := Keep.wr K114 W118 (Or.inr sz43)
  have N118 := Fr.snoc X118 N114 ge42
  have V118 : Arv Z h118 b36 k36 .char (34 : Int32) [(.int (nar .char (116 : Int32))), (.int (nar .char (104 : Int32))), (.int (nar .char (101 : Int32))), (.int (nar .char (114 : Int32))), (.int (nar .char (101 : Int32))), (.int (nar .char (32 : Int32))), (.int (nar .char (105 : Int32))), (.int (nar .char (115 : Int32))), (.int (nar .char (32 : Int32))), (.int (nar .char (110 : Int32))), (.int (nar .char (111 : Int32))), (.int (nar .char (32 : Int32))), (.int (nar .char (105 : Int32))), (.int (nar .char (109 : Int32))), (.int (nar .char (112 : Int32))), (.int (nar .char (111 : Int32))), (.int (nar .char (114 : Int32))), (.int (nar .char (116 : Int32))), (.int (nar .char (32 : Int32))), (.int (nar .char (119 : Int32))), (.int (0 : Int32)), (.int (0 : Int32)), (.int (0 : Int32)), (.int (0 : Int32)), (.int (0 : Int32)), (.int (0 : Int32)), (.int (0 : Int32)), (.int (0 : Int32)), (.int (0 : Int32)), (.int (0 : Int32)), (.int (0 : Int32)), (.int (0 : Int32)), (.int (0 : Int32)), (.int (0 : Int32))] (.int (0 : Int32)) := Arv.set Ar116 q116 S116 N116 H116 G116 (fits_nar_char _) W118 19 rfl (Nat.le_of_ble_eq_true rfl)
  refine own_go (fun _ => XS.dup X118.here hx rfl (hb hby at_156) rfl rfl) ?_
  refine own_go (fun _ => XS.bipush X118.here hx rfl (hb hby at_157)) ?_
  refine own_go (fun _ => XS.bipush X118.here hx rfl (hb hby at_159)) ?_
  obtain ⟨cl120, Ar120, q120, S120, N120, H120, G120⟩ := id V118
  have sf121 := Safe.arr (EL := own_EL) hZ.alike Ar120 (by decide)
  have hin120 : ¬ ((20 : Int32) < 0 ∨ cl120.slots.size ≤ ((20 : Int32)).toNatClampNeg) := inb_of S120 ⟨by decide, by decide⟩
  obtain ⟨T122, h122, X122, e122, W122, st122⟩ := stC X118 hx hZ e118 Ar120 (j := (20 : Int32)) hin120 (g := (mkF m 161 #[.val (.int x1), .val (.int x2), .val (.int y0), .val (.int y1), .val (.int y2), .val (.ref b6), .unset, .unset, .unset, .unset, .unset] [(.int (105 : Int32)), (.int (20 : Int32)), (.ref b36), (.ref b36)])) rfl rfl (hb hby at_161)
  refine own_go st122 ?_
  have CH123 := CHr.trans CH119 (CHr.wr W122 sf121 CH119.1)
  have le_122 : h118.size ≤ h122.size := Nat.le_of_eq W122.size.symm
  have K122 : Keep h0 h122 [] := Keep.wr K118 W122 (Or.inr sz43)
  have N122 := Fr.snoc X122 N118 ge42
  have V122 : Arv Z h122 b36 k36 .char (34 : Int32) [(.int (nar .char (116 : Int32))), (.int (nar .char (104 : Int32))), (.int (nar .char (101 : Int32))), (.int (nar .char (114 : Int32))), (.int (nar .char (101 : Int32))), (.int (nar .char (32 : Int32))), (.int (nar .char (105 : Int32))), (.int (nar .char (115 : Int32))), (.int (nar .char (32 : Int32))), (.int (nar .char (110 : Int32))), (.int (nar .char (111 : Int32))), (.int (nar .char (32 : Int32))), (.int (nar .char (105 : Int32))), (.int (nar .char (109 : Int32))), (.int (nar .char (112 : Int32))), (.int (nar .char (111 : Int32))), (.int (nar .char (114 : Int32))), (.int (nar .char (116 : Int32))), (.int (nar .char (32 : Int32))), (.int (nar .char (119 : Int32))), (.int (nar .char (105 : Int32))), (.int (0 : Int32)), (.int (0 : Int32)), (.int (0 : Int32)), (.int (0 : Int32)), (.int (0 : Int32)), (.int (0 : Int32)), (.int (0 : Int32)), (.int (0 : Int32)), (.int (0 : Int32)), (.int (0 : Int32)), (.int (0 : Int32)), (.int (0 : Int32)), (.int (0 : Int32))] (.int (0 : Int32)) := Arv.set Ar120 q120 S120 N120 H120 G120 (fits_nar_char _) W122 20 rfl (Nat.le_of_ble_eq_true rfl)
  refine own_go (fun _ => XS.dup X122.here hx rfl (hb hby at_162) rfl rfl) ?_
  refine own_go (fun _ => XS.bipush X122.here hx rfl (hb hby at_163)) ?_
  refine own_go (fun _ => XS.bipush X122.here hx rfl (hb hby at_165)) ?_
  obtain ⟨cl124, Ar124, q124, S124, N124, H124, G124⟩ := id V122
  have sf125 := Safe.arr (EL := own_EL) hZ.alike Ar124 (by decide)
  have hin124 : ¬ ((21 : Int32) < 0 ∨ cl124.slots.size ≤ ((21 : Int32)).toNatClampNeg) := inb_of S124 ⟨by decide, by decide⟩
  obtain ⟨T126, h126, X126, e126, W126, st126⟩ := stC X122 hx hZ e122 Ar124 (j := (21 : Int32)) hin124 (g := (mkF m 167 #[.val (.int x1), .val (.int x2), .val (.int y0), .val (.int y1), .val (.int y2), .val (.ref b6), .unset, .unset, .unset, .unset, .unset] [(.int (116 : Int32)), (.int (21 : Int32)), (.ref b36), (.ref b36)])) rfl rfl (hb hby at_167)
  refine own_go st126 ?_
  have CH127 := CHr.trans CH123 (CHr.wr W126 sf125 CH123.1)
  have le_126 : h122.size ≤ h126.size := Nat.le_of_eq W126.size.symm
  have K126 : Keep h0 h126 [] := Keep.wr K122 W126 (Or.inr sz43)
  have N126 := Fr.snoc X126 N122 ge42
  have V126 : Arv Z h126 b36 k36 .char (34 : Int32) [(.int (nar .char (116 : Int32))), (.int (nar .char (104 : Int32))), (.int (nar .char (101 : Int32))), (.int (nar .char (114 : Int32))), (.int (nar .char (101 : Int32))), (.int (nar .char (32 : Int32))), (.int (nar .char (105 : Int32))), (.int (nar .char (115 : Int32))), (.int (nar .char (32 : Int32))), (.int (nar .char (110 : Int32))), (.int (nar .char (111 : Int32))), (.int (nar .char (32 : Int32))), (.int (nar .char (105 : Int32))), (.int (nar .char (109 : Int32))), (.int (nar .char (112 : Int32))), (.int (nar .char (111 : Int32))), (.int (nar .char (114 : Int32))), (.int (nar .char (116 : Int32))), (.int (nar .char (32 : Int32))), (.int (nar .char (119 : Int32))), (.int (nar .char (105 : Int32))), (.int (nar .char (116 : Int32))), (.int (0 : Int32)), (.int (0 : Int32)), (.int (0 : Int32)), (.int (0 : Int32)), (.int (0 : Int32)), (.int (0 : Int32)), (.int (0 : Int32)), (.int (0 : Int32)), (.int (0 : Int32)), (.int (0 : Int32)), (.int (0 : Int32)), (.int (0 : Int32))] (.int (0 : Int32)) := Arv.set Ar124 q124 S124 N124 H124 G124 (fits_nar_char _) W126 21 rfl (Nat.le_of_ble_eq_true rfl)
  refine own_go (fun _ => XS.dup X126.here hx rfl (hb hby at_168) rfl rfl) ?_
  show ∃ t o, Steps p.tables e below (T126.setTop (mkF m 169 #[.val (.int x1), .val (.int x2), .val (.int y0), .val (.int y1), .val (.int y2), .val (.ref b6), .unset, .unset, .unset, .unset, .unset] [(.ref b36), (.ref b36)])) t ∧ _
  refine own_go (fun _ => XS.bipush X126.here hx rfl (hb hby at_169)) ?_
  refine own_go (fun _ => XS.bipush X126.here hx rfl (hb hby at_171)) ?_
  obtain ⟨cl128, Ar128, q128, S128, N128, H128, G128⟩ := id V126
  have sf129 := Safe.arr (EL := own_EL) hZ.alike Ar128 (by decide)
  have hin128 : ¬ ((22 : Int32) < 0 ∨ cl128.slots.size ≤ ((22 : Int32)).toNatClampNeg) := inb_of S128 ⟨by decide, by decide⟩
  obtain ⟨T130, h130, X130, e130, W130, st130⟩ := stC X126 hx hZ e126 Ar128 (j := (22 : Int32)) hin128 (g := (mkF m 173 #[.val (.int x1), .val (.int x2), .val (.int y0), .val (.int y1), .val (.int y2), .val (.ref b6), .unset, .unset, .unset, .unset, .unset] [(.int (104 : Int32)), (.int (22 : Int32)), (.ref b36), (.ref b36)])) rfl rfl (hb hby at_173)
  refine own_go st130 ?_
  have CH131 := CHr.trans CH127 (CHr.wr W130 sf129 CH127.1)
  have le_130 : h126.size ≤ h130.size := Nat.le_of_eq W130.size.symm
  have K130 : Keep h0 h130 [] := Keep.wr K126 W130 (Or.inr sz43)
  have N130 := Fr.snoc X130 N126 ge42
  have V130 : Arv Z h130 b36 k36 .char (34 : Int32) [(.int (nar .char (116 : Int32))), (.int (nar .char (104 : Int32))), (.int (nar .char (101 : Int32))), (.int (nar .char (114 : Int32))), (.int (nar .char (101 : Int32))), (.int (nar .char (32 : Int32))), (.int (nar .char (105 : Int32))), (.int (nar .char (115 : Int32))), (.int (nar .char (32 : Int32))), (.int (nar .char (110 : Int32))), (.int (nar .char (111 : Int32))), (.int (nar .char (32 : Int32))), (.int (nar .char (105 : Int32))), (.int (nar .char (109 : Int32))), (.int (nar .char (112 : Int32))), (.int (nar .char (111 : Int32))), (.int (nar .char (114 : Int32))), (.int (nar .char (116 : Int32))), (.int (nar .char (32 : Int32))), (.int (nar .char (119 : Int32))), (.int (nar .char (105 : Int32))), (.int (nar .char (116 : Int32))), (.int (nar .char (104 : Int32))), (.int (0 : Int32)), (.int (0 : Int32)), (.int (0 : Int32)), (.int (0 : Int32)), (.int (0 : Int32)), (.int (0 : Int32)), (.int (0 : Int32)), (.int (0 : Int32)), (.int (0 : Int32)), (.int (0 : Int32)), (.int (0 : Int32))] (.int (0 : Int32)) := Arv.set Ar128 q128 S128 N128 H128 G128 (fits_nar_char _) W130 22 rfl (Nat.le_of_ble_eq_true rfl)
  refine own_go (fun _ => XS.dup X130.here hx rfl (hb hby at_174) rfl rfl) ?_
  refine own_go (fun _ => XS.bipush X130.here hx rfl (hb hby at_175)) ?_
  refine own_go (fun _ => XS.bipush X130.here hx rfl (hb hby at_177)) ?_
  obtain ⟨cl132, Ar132, q132, S132, N132, H132, G132⟩ := id V130
  have sf133 := Safe.arr (EL := own_EL) hZ.alike Ar132 (by decide)
  have hin132 : ¬ ((23 : Int32) < 0 ∨ cl132.slots.size ≤ ((23 : Int32)).toNatClampNeg) := inb_of S132 ⟨by decide, by decide⟩
  obtain ⟨T134, h134, X134, e134, W134, st134⟩ := stC X130 hx hZ e130 Ar132 (j := (23 : Int32)) hin132 (g := (mkF m 179 #[.val (.int x1), .val (.int x2), .val (.int y0), .val (.int y1), .val (.int y2), .val (.ref b6), .unset, .unset, .unset, .unset, .unset] [(.int (32 : Int32)), (.int (23 : Int32)), (.ref b36), (.ref b36)])) rfl rfl (hb hby at_179)
  refine own_go st134 ?_
  have CH135 := CHr.trans CH131 (CHr.wr W134 sf133 CH131.1)
  have le_134 : h130.size ≤ h134.size := Nat.le_of_eq W134.size.symm
  have K134 : Keep h0 h134 [] := Keep.wr K130 W134 (Or.inr sz43)
  have N134 := Fr.snoc X134 N130 ge42
  have V134 : Arv Z h134 b36 k36 .char (34 : Int32) [(.int (nar .char (116 : Int32))), (.int (nar .char (104 : Int32))), (.int (nar .char (101 : Int32))), (.int (nar .char (114 : Int32))), (.int (nar .char (101 : Int32))), (.int (nar .char (32 : Int32))), (.int (nar .char (105 : Int32))), (.int (nar .char (115 : Int32))), (.int (nar .char (32 : Int32))), (.int (nar .char (110 : Int32))), (.int (nar .char (111 : Int32))), (.int (nar .char (32 : Int32))), (.int (nar .char (105 : Int32))), (.int (nar .char (109 : Int32))), (.int (nar .char (112 : Int32))), (.int (nar .char (111 : Int32))), (.int (nar .char (114 : Int32))), (.int (nar .char (116 : Int32))), (.int (nar .char (32 : Int32))), (.int (nar .char (119 : Int32))), (.int (nar .char (105 : Int32))), (.int (nar .char (116 : Int32))), (.int (nar .char (104 : Int32))), (.int (nar .char (32 : Int32))), (.int (0 : Int32)), (.int (0 : Int32)), (.int (0 : Int32)), (.int (0 : Int32)), (.int (0 : Int32)), (.int (0 : Int32)), (.int (0 : Int32)), (.int (0 : Int32)), (.int (0 : Int32)), (.int (0 : Int32))] (.int (0 : Int32)) := Arv.set Ar132 q132 S132 N132 H132 G132 (fits_nar_char _) W134 23 rfl (Nat.le_of_ble_eq_true rfl)
  refine own_go (fun _ => XS.dup X134.here hx rfl (hb hby at_180) rfl rfl) ?_
  refine own_go (fun _ => XS.bipush X134.here hx rfl (hb hby at_181)) ?_
  refine own_go (fun _ => XS.bipush X134.here hx rfl (hb hby at_183)) ?_
  show ∃ t o, Steps p.tables e below (T134.setTop (mkF m 185 #[.val (.int x1), .val (.int x2), .val (.int y0), .val (.int y1), .val (.int y2), .val (.ref b6), .unset, .unset, .unset, .unset, .unset] [(.int (116 : Int32)), (.int (24 : Int32)), (.ref b36), (.ref b36)])) t ∧ _
  obtain ⟨cl136, Ar136, q136, S136, N136, H136, G136⟩ := id V134
  have sf137 := Safe.arr (EL := own_EL) hZ.alike Ar136 (by decide)
  have hin136 : ¬ ((24 : Int32) < 0 ∨ cl136.slots.size ≤ ((24 : Int32)).toNatClampNeg) := inb_of S136 ⟨by decide, by decide⟩
  obtain ⟨T138, h138, X138, e138, W138, st138⟩ := stC X134 hx hZ e134 Ar136 (j := (24 : Int32)) hin136 (g := (mkF m 185 #[.val (.int x1), .val (.int x2), .val (.int y0), .val (.int y1), .val (.int y2), .val (.ref b6), .unset, .unset, .unset, .unset, .unset] [(.int (116 : Int32)), (.int (24 : Int32)), (.ref b36), (.ref b36)])) rfl rfl (hb hby at_185)
  refine own_go st138 ?_
  have CH139 := CHr.trans CH135 (CHr.wr W138 sf137 CH135.1)
  have le_138 : h134.size ≤ h138.size := Nat.le_of_eq W138.size.symm
  have K138 : Keep h0 h138 [] := Keep.wr K134 W138 (Or.inr sz43)
  have N138 := Fr.snoc X138 N134 ge42
  have V138 : Arv Z h138 b36 k36 .char (34 : Int32) [(.int (nar .char (116 : Int32))), (.int (nar .char (104 : Int32))), (.int (nar .char (101 : Int32))), (.int (nar .char (114 : Int32))), (.int (nar .char (101 : Int32))), (.int (nar .char (32 : Int32))), (.int (nar .char (105 : Int32))), (.int (nar .char (115 : Int32))), (.int (nar .char (32 : Int32))), (.int (nar .char (110 : Int32))), (.int (nar .char (111 : Int32))), (.int (nar .char (32 : Int32))), (.int (nar .char (105 : Int32))), (.int (nar .char (109 : Int32))), (.int (nar .char (112 : Int32))), (.int (nar .char (111 : Int32))), (.int (nar .char (114 : Int32))), (.int (nar .char (116 : Int32))), (.int (nar .char (32 : Int32))), (.int (nar .char (119 : Int32))), (.int (nar .char (105 : Int32))), (.int (nar .char (116 : Int32))), (.int (nar .char (104 : Int32))), (.int (nar .char (32 : Int32))), (.int (nar .char (116 : Int32))), (.int (0 : Int32)), (.int (0 : Int32)), (.int (0 : Int32)), (.int (0 : Int32)), (.int (0 : Int32)), (.int (0 : Int32)), (.int (0 : Int32)), (.int (0 : Int32)), (.int (0 : Int32))] (.int (0 : Int32)) := Arv.set Ar136 q136 S136 N136 H136 G136 (fits_nar_char _) W138 24 rfl (Nat.le_of_ble_eq_true rfl)
  refine own_go (fun _ => XS.dup X138.here hx rfl (hb hby at_186) rfl rfl) ?_
  refine own_go (fun _ => XS.bipush X138.here hx rfl (hb hby at_187)) ?_
  refine own_go (fun _ => XS.bipush X138.here hx rfl (hb hby at_189)) ?_
  obtain ⟨cl140, Ar140, q140, S140, N140, H140, G140⟩ := id V138
  have sf141 := Safe.arr (EL := own_EL) hZ.alike Ar140 (by decide)
  have hin140 : ¬ ((25 : Int32) < 0 ∨ cl140.slots.size ≤ ((25 : Int32)).toNatClampNeg) := inb_of S140 ⟨by decide, by decide⟩
  obtain ⟨T142, h142, X142, e142, W142, st142⟩ := stC X138 hx hZ e138 Ar140 (j := (25 : Int32)) hin140 (g := (mkF m 191 #[.val (.int x1), .val (.int x2), .val (.int y0), .val (.int y1), .val (.int y2), .val (.ref b6), .unset, .unset, .unset, .unset, .unset] [(.int (104 : Int32)), (.int (25 : Int32)), (.ref b36), (.ref b36)])) rfl rfl (hb hby at_191)
  refine own_go st142 ?_
  have CH143 := CHr.trans CH139 (CHr.wr W142 sf141 CH139.1)
  have le_142 : h138.size ≤ h142.size := Nat.le_of_eq W142.size.symm
  have K142 : Keep h0 h142 [] := Keep.wr K138 W142 (Or.inr sz43)
  have N142 := Fr.snoc X142 N138 ge42
  have V142 : Arv Z h142 b36 k36 .char (34 : Int32) [(.int (nar .char (116 : Int32))), (.int (nar .char (104 : Int32))), (.int (nar .char (101 : Int32))), (.int (nar .char (114 : Int32))), (.int (nar .char (101 : Int32))), (.int (nar .char (32 : Int32))), (.int (nar .char (105 : Int32))), (.int (nar .char (115 : Int32))), (.int (nar .char (32 : Int32))), (.int (nar .char (110 : Int32))), (.int (nar .char (111 : Int32))), (.int (nar .char (32 : Int32))), (.int (nar .char (105 : Int32))), (.int (nar .char (109 : Int32))), (.int (nar .char (112 : Int32))), (.int (nar .char (111 : Int32))), (.int (nar .char (114 : Int32))), (.int (nar .char (116 : Int32))), (.int (nar .char (32 : Int32))), (.int (nar .char (119 : Int32))), (.int (nar .char (105 : Int32))), (.int (nar .char (116 : Int32))), (.int (nar .char (104 : Int32))), (.int (nar .char (32 : Int32))), (.int (nar .char (116 : Int32))), (.int (nar .char (104 : Int32))), (.int (0 : Int32)), (.int (0 : Int32)), (.int (0 : Int32)), (.int (0 : Int32)), (.int (0 : Int32)), (.int (0 : Int32)), (.int (0 : Int32)), (.int (0 : Int32))] (.int (0 : Int32)) := Arv.set Ar140 q140 S140 N140 H140 G140 (fits_nar_char _) W142 25 rfl (Nat.le_of_ble_eq_true rfl)
  refine own_go (fun _ => XS.dup X142.here hx rfl (hb hby at_192) rfl rfl) ?_
  refine own_go (fun _ => XS.bipush X142.here hx rfl (hb hby at_193)) ?_
  refine own_go (fun _ => XS.bipush X142.here hx rfl (hb hby at_195)) ?_
  obtain ⟨cl144, Ar144, q144, S144, N144, H144, G144⟩ := id V142
  have sf145 := Safe.arr (EL := own_EL) hZ.alike Ar144 (by decide)
  have hin144 : ¬ ((26 : Int32) < 0 ∨ cl144.slots.size ≤ ((26 : Int32)).toNatClampNeg) := inb_of S144 ⟨by decide, by decide⟩
  obtain ⟨T146, h146, X146, e146, W146, st146⟩ := stC X142 hx hZ e142 Ar144 (j := (26 : Int32)) hin144 (g := (mkF m 197 #[.val (.int x1), .val (.int x2), .val (.int y0), .val (.int y1), .val (.int y2), .val (.ref b6), .unset, .unset, .unset, .unset, .unset] [(.int (101 : Int32)), (.int (26 : Int32)), (.ref b36), (.ref b36)])) rfl rfl (hb hby at_197)
  refine own_go st146 ?_
  have CH147 := CHr.trans CH143 (CHr.wr W146 sf145 CH143.1)
  have le_146 : h142.size ≤ h146.size := Nat.le_of_eq W146.size.symm
  have K146 : Keep h0 h146 [] := Keep.wr K142 W146 (Or.inr sz43)
  have N146 := Fr.snoc X146 N142 ge42
  have V146 : Arv Z h146 b36 k36 .char (34 : Int32) [(.int (nar .char (116 : Int32))), (.int (nar .char (104 : Int32))), (.int (nar .char (101 : Int32))), (.int (nar .char (114 : Int32))), (.int (nar .char (101 : Int32))), (.int (nar .char (32 : Int32))), (.int (nar .char (105 : Int32))), (.int (nar .char (115 : Int32))), (.int (nar .char (32 : Int32))), (.int (nar .char (110 : Int32))), (.int (nar .char (111 : Int32))), (.int (nar .char (32 : Int32))), (.int (nar .char (105 : Int32))), (.int (nar .char (109 : Int32))), (.int (nar .char (112 : Int32))), (.int (nar .char (111 : Int32))), (.int (nar .char (114 : Int32))), (.int (nar .char (116 : Int32))), (.int (nar .char (32 : Int32))), (.int (nar .char (119 : Int32))), (.int (nar .char (105 : Int32))), (.int (nar .char (116 : Int32))), (.int (nar .char (104 : Int32))), (.int (nar .char (32 : Int32))), (.int (nar .char (116 : Int32))), (.int (nar .char (104 : Int32))), (.int (nar .char (101 : Int32))), (.int (0 : Int32)), (.int (0 : Int32)), (.int (0 : Int32)), (.int (0 : Int32)), (.int (0 : Int32)), (.int (0 : Int32)), (.int (0 : Int32))] (.int (0 : Int32)) := Arv.set Ar144 q144 S144 N144 H144 G144 (fits_nar_char _) W146 26 rfl (Nat.le_of_ble_eq_true rfl)
  refine own_go (fun _ => XS.dup X146.here hx rfl (hb hby at_198) rfl rfl) ?_
  show ∃ t o, Steps p.tables e below (T146.setTop (mkF m 199 #[.val (.int x1), .val (.int x2), .val (.int y0), .val (.int y1), .val (.int y2), .val (.ref b6), .unset, .unset, .unset, .unset, .unset] [(.ref b36), (.ref b36)])) t ∧ _
  refine own_go (fun _ => XS.bipush X146.here hx rfl (hb hby at_199)) ?_
  refine own_go (fun _ => XS.bipush X146.here hx rfl (hb hby at_201)) ?_
  obtain ⟨cl148, Ar148, q148, S148, N148, H148, G148⟩ := id V146
  have sf149 := Safe.arr (EL := own_EL) hZ.alike Ar148 (by decide)
  have hin148 : ¬ ((27 : Int32) < 0 ∨ cl148.slots.size ≤ ((27 : Int32)).toNatClampNeg) := inb_of S148 ⟨by decide, by decide⟩
  obtain ⟨T150, h150, X150, e150, W150, st150⟩ := stC X146 hx hZ e146 Ar148 (j := (27 : Int32)) hin148 (g := (mkF m 203 #[.val (.int x1), .val (.int x2), .val (.int y0), .val (.int y1), .val (.int y2), .val (.ref b6), .unset, .unset, .unset, .unset, .unset] [(.int (32 : Int32)), (.int (27 : Int32)), (.ref b36), (.ref b36)])) rfl rfl (hb hby at_203)
  refine own_go st150 ?_
  have CH151 := CHr.trans CH147 (CHr.wr W150 sf149 CH147.1)
  have le_150 : h146.size ≤ h150.size := Nat.le_of_eq W150.size.symm
  have K150 : Keep h0 h150 [] := Keep.wr K146 W150 (Or.inr sz43)
  have N150 := Fr.snoc X150 N146 ge42
  have V150 : Arv Z h150 b36 k36 .char (34 : Int32) [(.int (nar .char (116 : Int32))), (.int (nar .char (104 : Int32))), (.int (nar .char (101 : Int32))), (.int (nar .char (114 : Int32))), (.int (nar .char (101 : Int32))), (.int (nar .char (32 : Int32))), (.int (nar .char (105 : Int32))), (.int (nar .char (115 : Int32))), (.int (nar .char (32 : Int32))), (.int (nar .char (110 : Int32))), (.int (nar .char (111 : Int32))), (.int (nar .char (32 : Int32))), (.int (nar .char (105 : Int32))), (.int (nar .char (109 : Int32))), (.int (nar .char (112 : Int32))), (.int (nar .char (111 : Int32))), (.int (nar .char (114 : Int32))), (.int (nar .char (116 : Int32))), (.int (nar .char (32 : Int32))), (.int (nar .char (119 : Int32))), (.int (nar .char (105 : Int32))), (.int (nar .char (116 : Int32))), (.int (nar .char (104 : Int32))), (.int (nar .char (32 : Int32))), (.int (nar .char (116 : Int32))), (.int (nar .char (104 : Int32))), (.int (nar .char (101 : Int32))), (.int (nar .char (32 : Int32))), (.int (0 : Int32)), (.int (0 : Int32)), (.int (0 : Int32)), (.int (0 : Int32)), (.int (0 : Int32)), (.int (0 : Int32))] (.int (0 : Int32)) := Arv.set Ar148 q148 S148 N148 H148 G148 (fits_nar_char _) W150 27 rfl (Nat.le_of_ble_eq_true rfl)
  refine own_go (fun _ => XS.dup X150.here hx rfl (hb hby at_204) rfl rfl) ?_
  refine own_go (fun _ => XS.bipush X150.here hx rfl (hb hby at_205)) ?_
  refine own_go (fun _ => XS.bipush X150.here hx rfl (hb hby at_207)) ?_
  obtain ⟨cl152, Ar152, q152, S152, N152, H152, G152⟩ := id V150
  have sf153 := Safe.arr (EL := own_EL) hZ.alike Ar152 (by decide)
  have hin152 : ¬ ((28 : Int32) < 0 ∨ cl152.slots.size ≤ ((28 : Int32)).toNatClampNeg) := inb_of S152 ⟨by decide, by decide⟩
  obtain ⟨T154, h154, X154, e154, W154, st154⟩ := stC X150 hx hZ e150 Ar152 (j := (28 : Int32)) hin152 (g := (mkF m 209 #[.val (.int x1), .val (.int x2), .val (.int y0), .val (.int y1), .val (.int y2), .val (.ref b6), .unset, .unset, .unset, .unset, .unset] [(.int (105 : Int32)), (.int (28 : Int32)), (.ref b36), (.ref b36)])) rfl rfl (hb hby at_209)
  refine own_go st154 ?_
  have CH155 := CHr.trans CH151 (CHr.wr W154 sf153 CH151.1)
  have le_154 : h150.size ≤ h154.size := Nat.le_of_eq W154.size.symm
  have K154 : Keep h0 h154 [] := Keep.wr K150 W154 (Or.inr sz43)
  have N154 := Fr.snoc X154 N150 ge42
  have V154 : Arv Z h154 b36 k36 .char (34 : Int32) [(.int (nar .char (116 : Int32))), (.int (nar .char (104 : Int32))), (.int (nar .char (101 : Int32))), (.int (nar .char (114 : Int32))), (.int (nar .char (101 : Int32))), (.int (nar .char (32 : Int32))), (.int (nar .char (105 : Int32))), (.int (nar .char (115 : Int32))), (.int (nar .char (32 : Int32))), (.int (nar .char (110 : Int32))), (.int (nar .char (111 : Int32))), (.int (nar .char (32 : Int32))), (.int (nar .char (105 : Int32))), (.int (nar .char (109 : Int32))), (.int (nar .char (112 : Int32))), (.int (nar .char (111 : Int32))), (.int (nar .char (114 : Int32))), (.int (nar .char (116 : Int32))), (.int (nar .char (32 : Int32))), (.int (nar .char (119 : Int32))), (.int (nar .char (105 : Int32))), (.int (nar .char (116 : Int32))), (.int (nar .char (104 : Int32))), (.int (nar .char (32 : Int32))), (.int (nar .char (116 : Int32))), (.int (nar .char (104 : Int32))), (.int (nar .char (101 : Int32))), (.int (nar .char (32 : Int32))), (.int (nar .char (105 : Int32))), (.int (0 : Int32)), (.int (0 : Int32)), (.int (0 : Int32)), (.int (0 : Int32)), (.int (0 : Int32))] (.int (0 : Int32)) := Arv.set Ar152 q152 S152 N152 H152 G152 (fits_nar_char _) W154 28 rfl (Nat.le_of_ble_eq_true rfl)
  refine own_go (fun _ => XS.dup X154.here hx rfl (hb hby at_210) rfl rfl) ?_
  refine own_go (fun _ => XS.bipush X154.here hx rfl (hb hby at_211)) ?_
  refine own_go (fun _ => XS.bipush X154.here hx rfl (hb hby at_213)) ?_
  show ∃ t o, Steps p.tables e below (T154.setTop (mkF m 215 #[.val (.int x1), .val (.int x2), .val (.int y0), .val (.int y1), .val (.int y2), .val (.ref b6), .unset, .unset, .unset, .unset, .unset] [(.int (100 : Int32)), (.int (29 : Int32)), (.ref b36), (.ref b36)])) t ∧ _
  obtain ⟨cl156, Ar156, q156, S156, N156, H156, G156⟩ := id V154
  have sf157 := Safe.arr (EL := own_EL) hZ.alike Ar156 (by decide)
  have hin156 : ¬ ((29 : Int32) < 0 ∨ cl156.slots.size ≤ ((29 : Int32)).toNatClampNeg) := inb_of S156 ⟨by decide, by decide⟩
  obtain ⟨T158, h158, X158, e158, W158, st158⟩ := stC X154 hx hZ e154 Ar156 (j := (29 : Int32)) hin156 (g := (mkF m 215 #[.val (.int x1), .val (.int x2), .val (.int y0), .val (.int y1), .val (.int y2), .val (.ref b6), .unset, .unset, .unset, .unset, .unset] [(.int (100 : Int32)), (.int (29 : Int32)), (.ref b36), (.ref b36)])) rfl rfl (hb hby at_215)
  refine own_go st158 ?_
  have CH159 := CHr.trans CH155 (CHr.wr W158 sf157 CH155.1)
  have le_158 : h154.size ≤ h158.size := Nat.le_of_eq W158.size.symm
  have K158 : Keep h0 h158 [] := Keep.wr K154 W158 (Or.inr sz43)
  have N158 := Fr.snoc X158 N154 ge42
  have V158 : Arv Z h158 b36 k36 .char (34 : Int32) [(.int (nar .char (116 : Int32))), (.int (nar .char (104 : Int32))), (.int (nar .char (101 : Int32))), (.int (nar .char (114 : Int32))), (.int (nar .char (101 : Int32))), (.int (nar .char (32 : Int32))), (.int (nar .char (105 : Int32))), (.int (nar .char (115 : Int32))), (.int (nar .char (32 : Int32))), (.int (nar .char (110 : Int32))), (.int (nar .char (111 : Int32))), (.int (nar .char (32 : Int32))), (.int (nar .char (105 : Int32))), (.int (nar .char (109 : Int32))), (.int (nar .char (112 : Int32))), (.int (nar .char (111 : Int32))), (.int (nar .char (114 : Int32))), (.int (nar .char (116 : Int32))), (.int (nar .char (32 : Int32))), (.int (nar .char (119 : Int32))), (.int (nar .char (105 : Int32))), (.int (nar .char (116 : Int32))), (.int (nar .char (104 : Int32))), (.int (nar .char (32 : Int32))), (.int (nar .char (116 : Int32))), (.int (nar .char (104 : Int32))), (.int (nar .char (101 : Int32))), (.int (nar .char (32 : Int32))), (.int (nar .char (105 : Int32))), (.int (nar .char (100 : Int32))), (.int (0 : Int32)), (.int (0 : Int32)), (.int (0 : Int32)), (.int (0 : Int32))] (.int (0 : Int32)) := Arv.set Ar156 q156 S156 N156 H156 G156 (fits_nar_char _) W158 29 rfl (Nat.le_of_ble_eq_true rfl)
  refine own_go (fun _ => XS.dup X158.here hx rfl (hb hby at_216) rfl rfl) ?_
  refine own_go (fun _ => XS.bipush X158.here hx rfl (hb hby at_217)) ?_
  refine own_go (fun _ => XS.bipush X158.here hx rfl (hb hby at_219)) ?_
  obtain ⟨cl160, Ar160, q160, S160, N160, H160, G160⟩ := id V158
  have sf161 := Safe.arr (EL := own_EL) hZ.alike Ar160 (by decide)
  have hin160 : ¬ ((30 : Int32) < 0 ∨ cl160.slots.size ≤ ((30 : Int32)).toNatClampNeg) := inb_of S160 ⟨by decide, by decide⟩
  obtain ⟨T162, h162, X162, e162, W162, st162⟩ := stC X158 hx hZ e158 Ar160 (j := (30 : Int32)) hin160 (g := (mkF m 221 #[.val (.int x1), .val (.int x2), .val (.int y0), .val (.int y1), .val (.int y2), .val (.ref b6), .unset, .unset, .unset, .unset, .unset] [(.int (32 : Int32)), (.int (30 : Int32)), (.ref b36), (.ref b36)])) rfl rfl (hb hby at_221)
  refine own_go st162 ?_
  have CH163 := CHr.trans CH159 (CHr.wr W162 sf161 CH159.1)
  have le_162 : h158.size ≤ h162.size := Nat.le_of_eq W162.size.symm
  have K162 : Keep h0 h162 [] := Keep.wr K158 W162 (Or.inr sz43)
  have N162 := Fr.snoc X162 N158 ge42
  have V162 : Arv Z h162 b36 k36 .char (34 : Int32) [(.int (nar .char (116 : Int32))), (.int (nar .char (104 : Int32))), (.int (nar .char (101 : Int32))), (.int (nar .char (114 : Int32))), (.int (nar .char (101 : Int32))), (.int (nar .char (32 : Int32))), (.int (nar .char (105 : Int32))), (.int (nar .char (115 : Int32))), (.int (nar .char (32 : Int32))), (.int (nar .char (110 : Int32))), (.int (nar .char (111 : Int32))), (.int (nar .char (32 : Int32))), (.int (nar .char (105 : Int32))), (.int (nar .char (109 : Int32))), (.int (nar .char (112 : Int32))), (.int (nar .char (111 : Int32))), (.int (nar .char (114 : Int32))), (.int (nar .char (116 : Int32))), (.int (nar .char (32 : Int32))), (.int (nar .char (119 : Int32))), (.int (nar .char (105 : Int32))), (.int (nar .char (116 : Int32))), (.int (nar .char (104 : Int32))), (.int (nar .char (32 : Int32))), (.int (nar .char (116 : Int32))), (.int (nar .char (104 : Int32))), (.int (nar .char (101 : Int32))), (.int (nar .char (32 : Int32))), (.int (nar .char (105 : Int32))), (.int (nar .char (100 : Int32))), (.int (nar .char (32 : Int32))), (.int (0 : Int32)), (.int (0 : Int32)), (.int (0 : Int32))] (.int (0 : Int32)) := Arv.set Ar160 q160 S160 N160 H160 G160 (fits_nar_char _) W162 30 rfl (Nat.le_of_ble_eq_true rfl)
  refine own_go (fun _ => XS.dup X162.here hx rfl (hb hby at_222) rfl rfl) ?_
  refine own_go (fun _ => XS.bipush X162.here hx rfl (hb hby at_223)) ?_
  refine own_go (fun _ => XS.iloadN X162.here hx rfl (hb hby at_225) rfl) ?_
  obtain ⟨cl164, Ar164, q164, S164, N164, H164, G164⟩ := id V162
  have sf165 := Safe.arr (EL := own_EL) hZ.alike Ar164 (by decide)
  have hin164 : ¬ ((31 : Int32) < 0 ∨ cl164.slots.size ≤ ((31 : Int32)).toNatClampNeg) := inb_of S164 ⟨by decide, by decide⟩
  obtain ⟨T166, h166, X166, e166, W166, st166⟩ := stC X162 hx hZ e162 Ar164 (j := (31 : Int32)) hin164 (g := (mkF m 226 #[.val (.int x1), .val (.int x2), .val (.int y0), .val (.int y1), .val (.int y2), .val (.ref b6), .unset, .unset, .unset, .unset, .unset] [(.int y0), (.int (31 : Int32)), (.ref b36), (.ref b36)])) rfl rfl (hb hby at_226)
  refine own_go st166 ?_
  have CH167 := CHr.trans CH163 (CHr.wr W166 sf165 CH163.1)
  have le_166 : h162.size ≤ h166.size := Nat.le_of_eq W166.size.symm
  have K166 : Keep h0 h166 [] := Keep.wr K162 W166 (Or.inr sz43)
  have N166 := Fr.snoc X166 N162 ge42
  have V166 : Arv Z h166 b36 k36 .char (34 : Int32) [(.int (nar .char (116 : Int32))), (.int (nar .char (104 : Int32))), (.int (nar .char (101 : Int32))), (.int (nar .char (114 : Int32))), (.int (nar .char (101 : Int32))), (.int (nar .char (32 : Int32))), (.int (nar .char (105 : Int32))), (.int (nar .char (115 : Int32))), (.int (nar .char (32 : Int32))), (.int (nar .char (110 : Int32))), (.int (nar .char (111 : Int32))), (.int (nar .char (32 : Int32))), (.int (nar .char (105 : Int32))), (.int (nar .char (109 : Int32))), (.int (nar .char (112 : Int32))), (.int (nar .char (111 : Int32))), (.int (nar .char (114 : Int32))), (.int (nar .char (116 : Int32))), (.int (nar .char (32 : Int32))), (.int (nar .char (119 : Int32))), (.int (nar .char (105 : Int32))), (.int (nar .char (116 : Int32))), (.int (nar .char (104 : Int32))), (.int (nar .char (32 : Int32))), (.int (nar .char (116 : Int32))), (.int (nar .char (104 : Int32))), (.int (nar .char (101 : Int32))), (.int (nar .char (32 : Int32))), (.int (nar .char (105 : Int32))), (.int (nar .char (100 : Int32))), (.int (nar .char (32 : Int32))), (.int (nar .char y0)), (.int (0 : Int32)), (.int (0 : Int32))] (.int (0 : Int32)) := Arv.set Ar164 q164 S164 N164 H164 G164 (fits_nar_char _) W166 31 rfl (Nat.le_of_ble_eq_true rfl)
  refine own_go (fun _ => XS.dup X166.here hx rfl (hb hby at_227) rfl rfl) ?_
  show ∃ t o, Steps p.tables e below (T166.setTop (mkF m 228 #[.val (.int x1), .val (.int x2), .val (.int y0), .val (.int y1), .val (.int y2), .val (.ref b6), .unset, .unset, .unset, .unset, .unset] [(.ref b36), (.ref b36)])) t ∧ _
  refine own_go (fun _ => XS.bipush X166.here hx rfl (hb hby at_228)) ?_
  refine own_go (fun _ => XS.iloadN X166.here hx rfl (hb hby at_230) rfl) ?_
  obtain ⟨cl168, Ar168, q168, S168, N168, H168, G168⟩ := id V166
  have sf169 := Safe.arr (EL := own_EL) hZ.alike Ar168 (by decide)
  have hin168 : ¬ ((32 : Int32) < 0 ∨ cl168.slots.size ≤ ((32 : Int32)).toNatClampNeg) := inb_of S168 ⟨by decide, by decide⟩
  obtain ⟨T170, h170, X170, e170, W170, st170⟩ := stC X166 hx hZ e166 Ar168 (j := (32 : Int32)) hin168 (g := (mkF m 231 #[.val (.int x1), .val (.int x2), .val (.int y0), .val (.int y1), .val (.int y2), .val (.ref b6), .unset, .unset, .unset, .unset, .unset] [(.int y1), (.int (32 : Int32)), (.ref b36), (.ref b36)])) rfl rfl (hb hby at_231)
  refine own_go st170 ?_
  have CH171 := CHr.trans CH167 (CHr.wr W170 sf169 CH167.1)
  have le_170 : h166.size ≤ h170.size := Nat.le_of_eq W170.size.symm
  have K170 : Keep h0 h170 [] := Keep.wr K166 W170 (Or.inr sz43)
  have N170 := Fr.snoc X170 N166 ge42
  have V170 : Arv Z h170 b36 k36 .char (34 : Int32) [(.int (nar .char (116 : Int32))), (.int (nar .char (104 : Int32))), (.int (nar .char (101 : Int32))), (.int (nar .char (114 : Int32))), (.int (nar .char (101 : Int32))), (.int (nar .char (32 : Int32))), (.int (nar .char (105 : Int32))), (.int (nar .char (115 : Int32))), (.int (nar .char (32 : Int32))), (.int (nar .char (110 : Int32))), (.int (nar .char (111 : Int32))), (.int (nar .char (32 : Int32))), (.int (nar .char (105 : Int32))), (.int (nar .char (109 : Int32))), (.int (nar .char (112 : Int32))), (.int (nar .char (111 : Int32))), (.int (nar .char (114 : Int32))), (.int (nar .char (116 : Int32))), (.int (nar .char (32 : Int32))), (.int (nar .char (119 : Int32))), (.int (nar .char (105 : Int32))), (.int (nar .char (116 : Int32))), (.int (nar .char (104 : Int32))), (.int (nar .char (32 : Int32))), (.int (nar .char (116 : Int32))), (.int (nar .char (104 : Int32))), (.int (nar .char (101 : Int32))), (.int (nar .char (32 : Int32))), (.int (nar .char (105 : Int32))), (.int (nar .char (100 : Int32))), (.int (nar .char (32 : Int32))), (.int (nar .char y0)), (.int (nar .char y1)), (.int (0 : Int32))] (.int (0 : Int32)) := Arv.set Ar168 q168 S168 N168 H168 G168 (fits_nar_char _) W170 32 rfl (Nat.le_of_ble_eq_true rfl)
  refine own_go (fun _ => XS.dup X170.here hx rfl (hb hby at_232) rfl rfl) ?_
  refine own_go (fun _ => XS.bipush X170.here hx rfl (hb hby at_233)) ?_
  refine own_go (fun _ => XS.iload X170.here hx rfl (hb hby at_235) rfl) ?_
  obtain ⟨cl172, Ar172, q172, S172, N172, H172, G172⟩ := id V170
  have sf173 := Safe.arr (EL := own_EL) hZ.alike Ar172 (by decide)
  have hin172 : ¬ ((33 : Int32) < 0 ∨ cl172.slots.size ≤ ((33 : Int32)).toNatClampNeg) := inb_of S172 ⟨by decide, by decide⟩
  obtain ⟨T174, h174, X174, e174, W174, st174⟩ := stC X170 hx hZ e170 Ar172 (j := (33 : Int32)) hin172 (g := (mkF m 237 #[.val (.int x1), .val (.int x2), .val (.int y0), .val (.int y1), .val (.int y2), .val (.ref b6), .unset, .unset, .unset, .unset, .unset] [(.int y2), (.int (33 : Int32)), (.ref b36), (.ref b36)])) rfl rfl (hb hby at_237)
  refine own_go st174 ?_
  have CH175 := CHr.trans CH171 (CHr.wr W174 sf173 CH171.1)
  have le_174 : h170.size ≤ h174.size := Nat.le_of_eq W174.size.symm
  have K174 : Keep h0 h174 [] := Keep.wr K170 W174 (Or.inr sz43)
  have N174 := Fr.snoc X174 N170 ge42
  have V174 : Arv Z h174 b36 k36 .char (34 : Int32) [(.int (nar .char (116 : Int32))), (.int (nar .char (104 : Int32))), (.int (nar .char (101 : Int32))), (.int (nar .char (114 : Int32))), (.int (nar .char (101 : Int32))), (.int (nar .char (32 : Int32))), (.int (nar .char (105 : Int32))), (.int (nar .char (115 : Int32))), (.int (nar .char (32 : Int32))), (.int (nar .char (110 : Int32))), (.int (nar .char (111 : Int32))), (.int (nar .char (32 : Int32))), (.int (nar .char (105 : Int32))), (.int (nar .char (109 : Int32))), (.int (nar .char (112 : Int32))), (.int (nar .char (111 : Int32))), (.int (nar .char (114 : Int32))), (.int (nar .char (116 : Int32))), (.int (nar .char (32 : Int32))), (.int (nar .char (119 : Int32))), (.int (nar .char (105 : Int32))), (.int (nar .char (116 : Int32))), (.int (nar .char (104 : Int32))), (.int (nar .char (32 : Int32))), (.int (nar .char (116 : Int32))), (.int (nar .char (104 : Int32))), (.int (nar .char (101 : Int32))), (.int (nar .char (32 : Int32))), (.int (nar .char (105 : Int32))), (.int (nar .char (100 : Int32))), (.int (nar .char (32 : Int32))), (.int (nar .char y0)), (.int (nar .char y1)), (.int (nar .char y2))] (.int (0 : Int32)) := Arv.set Ar172 q172 S172 N172 H172 G172 (fits_nar_char _) W174 33 rfl (Nat.le_of_ble_eq_true rfl)
  refine own_go (fun _ => XS.astore X174.here hx rfl (hb hby at_238) rfl rfl (l' := #[.val (.int x1), .val (.int x2), .val (.int y0), .val (.int y1), .val (.int y2), .val (.ref b6), .val (.ref b36), .unset, .unset, .unset, .unset]) rfl) ?_
  show ∃ t o, Steps p.tables e below (T174.setTop (mkF m 240 #[.val (.int x1), .val (.int x2), .val (.int y0), .val (.int y1), .val (.int y2), .val (.ref b6), .val (.ref b36), .unset, .unset, .unset, .unset] [])) t ∧ _
  obtain ⟨T176, h176, X176, e176, E176, A176, D176, -, st176⟩ := newO X174 hx hZ hown w_0 w_1 w_2 e174 (g := (mkF m 240 #[.val (.int x1), .val (.int x2), .val (.int y0), .val (.int y1), .val (.int y2), .val (.ref b6), .val (.ref b36), .unset, .unset, .unset, .unset] [])) rfl (hb hby at_240) (by decide) (by decide)
  obtain ⟨b176, g176⟩ : ∃ z, z = h174.size := ⟨_, rfl⟩
  rw [← g176] at A176 D176 st176
  refine own_go st176 ?_
  have le_176 : h174.size ≤ h176.size := E176.1
  have lt_b176 : b176 < h176.size := A176.lt
  have F_coder_b176 : Fld Z h176 b176 "java/lang/String" "coder" "B" (.int (0 : Int32)) := D176 (Or.inr w_27) (ty := .byte) (by decide)
  have F_value_b176 : Fld Z h176 b176 "java/lang/String" "value" "[B" .null := D176 (Or.inr w_29) (ty := (.array .byte)) (by decide)
  have K176 : Keep h0 h176 [] := Keep.ext K174 E176
  have CH177 := CHr.trans CH175 (CHr.ext E176 CH175.1)
  refine own_go (fun _ => XS.dup X176.here hx rfl (hb hby at_243) rfl rfl) ?_
  refine own_go (fun _ => XS.aload X176.here hx rfl (hb hby at_244) rfl rfl) ?_
  show ∃ t o, Steps p.tables e below (T176.setTop (mkF m 246 #[.val (.int x1), .val (.int x2), .val (.int y0), .val (.int y1), .val (.int y2), .val (.ref b6), .val (.ref b36), .unset, .unset, .unset, .unset] [(.ref b36), (.ref b176), (.ref b176)])) t ∧ _
  have F178 := (V174.ext E176)
  have Ve : Arv Z h176 b36 k36 .char (34 : Int32) (own_cv (own_pre ++ [y0, y1, y2])) (.int (0 : Int32)) := by have q := F178; simp only [own_nar16 r_y0, own_nar16 r_y1, own_nar16 r_y2] at q; exact q
  have F179 := ((Old.wr (Old.wr (Old.wr (Old.wr (Old.wr (Old.wr (Old.wr (Old.wr (Old.wr (Old.wr (Old.wr (Old.wr (Old.wr (Old.wr (Old.wr (Old.wr (Old.wr (Old.wr (Old.wr (Old.wr (Old.wr (Old.wr (Old.wr (Old.wr (Old.wr (Old.wr (Old.wr (Old.wr (Old.wr (Old.wr (Old.wr (Old.wr (Old.wr (Old.wr ((Old.keep F28 Kp33 (allS ge29 all0)).ext E36) W40 ge42) W46 ge42) W50 ge42) W54 ge42) W58 ge42) W62 ge42) W66 ge42) W70 ge42) W74 ge42) W78 ge42) W82 ge42) W86 ge42) W90 ge42) W94 ge42) W98 ge42) W102 ge42) W106 ge42) W110 ge42) W114 ge42) W118 ge42) W122 ge42) W126 ge42) W130 ge42) W134 ge42) W138 ge42) W142 ge42) W146 ge42) W150 ge42) W154 ge42) W158 ge42) W162 ge42) W166 ge42) W170 ge42) W174 ge42).ext E176)
  have ge180 : n0 ≤ b176 := by omega
  have ne181 : b36 ≠ b176 := own_ne (by omega)
  have zl182 : n0 ≤ h176.size := by omega
  have sf183 := own_safe_null (EL := own_EL) hZ.alike A176 F_value_b176
  obtain ⟨_, _, ⟨T184, L184, k184, n184⟩, -, X184, ⟨Lc184, hQ184, l184, y184, z184⟩, st184⟩ := X176.specialBack hx (y := (⟨"java/lang/String", "<init>", "([C)V"⟩ : MethodName)) rfl hown (mvT hZ w_4) (mvT hZ w_5) (mvT hZ w_6) (by decide) (backOf (W := 1) (rmS1G l Z a0 hw [] b176 b36 k36 (34 : Int32) (own_pre ++ [y0, y1, y2]) zc h176 n0 zl182 A176 F_value_b176 F_coder_b176 Ve F179 P1 P2 P3 P4 hzc (rfl : own_fit (own_cv (own_pre ++ [y0, y1, y2])) (34 : Int32)) ((Nat.le_of_ble_eq_true rfl) : (own_pre ++ [y0, y1, y2]).length ≤ 34) (own_all34 (own_all3 r_y0 r_y1 r_y2) : ∀ x ∈ (own_pre ++ [y0, y1, y2]), own_c16 x) ((by decide) : 0 < (34 : Int32).toInt) ge180 ne181) hZ w_6 w_2 (by decide) (by decide)) (g := (mkF m 246 #[.val (.int x1), .val (.int x2), .val (.int y0), .val (.int y1), .val (.int y2), .val (.ref b6), .val (.ref b36), .unset, .unset, .unset, .unset] [(.ref b36), (.ref b176), (.ref b176)])) rfl (by rw [hml]; rfl) (Steps.refl _) (a := b176) (argsL := [(.ref b36)]) (rest := [(.ref b176)]) (lenOf pd__28_5bC_29V rfl) rfl (by show 2 * 0 + _ ≤ _; exact Nat.le_of_eq rfl) (hb hby at_246) (fun _ _ => ⟨rfl, e176, (by decide : 6 + 2 ≤ _), (by decide : 147 + 102 ≤ _)⟩)
  dsimp only [Pt.U, Pt.locs, Pt.cells, Pt.slots] at X184 l184 y184 z184 st184 hQ184
  rw [l184, y184, z184] at X184
  obtain ⟨tb_184, kb_184, nx_184, ls_184, cd_184, rfl, Nq184, Kp184, G184_0, G184_1, G184_2, G184_3, H184_0, H184_1⟩ := hQ184
  have N184 := Fr.app N174 Nq184
  refine own_goT st184 ?_
  have le_184 : h176.size ≤ T184.heap.size := Kp184.1
  have sz185 : h0.size ≤ b176 := by omega
  have K184 : Keep h0 T184.heap [] := Keep.trans K176 Kp184 (allS (Or.inr sz185) all0)
  have CH186 := CHr.trans CH177 (CHr.keep Kp184 (allS sf183 all0) CH177.1)
  have lt_tb_184 : tb_184 < T184.heap.size := (G184_3).lt
  show ∃ t o, Steps p.tables e below (T184.setTop (mkF m 249 #[.val (.int x1), .val (.int x2), .val (.int y0), .val (.int y1), .val (.int y2), .val (.ref b6), .val (.ref b36), .unset, .unset, .unset, .unset] [(.ref b176)])) t ∧ _
  rcases H33_0 with ⟨hla1, hcd1, hls1, hnx1⟩ | ⟨hla1, hcd1, hls1, hnx1⟩
  · obtain ⟨hla2, hcd2, hls2, hnx2⟩ := H184_0.resolve_right (fun q => q.1 ((own_lata own_preL).mpr hla1))
    have ne187 : b6 ≠ b36 := own_ne (by omega)
    have ne188 : b6 ≠ b176 := own_ne (by omega)
    have F189 := (Fld.keep (Fld.ext E176 (Fld.other W174 (Fld.other W170 (Fld.other W166 (Fld.other W162 (Fld.other W158 (Fld.other W154 (Fld.other W150 (Fld.other W146 (Fld.other W142 (Fld.other W138 (Fld.other W134 (Fld.other W130 (Fld.other W126 (Fld.other W122 (Fld.other W118 (Fld.other W114 (Fld.other W110 (Fld.other W106 (Fld.other W102 (Fld.other W98 (Fld.other W94 (Fld.other W90 (Fld.other W86 (Fld.other W82 (Fld.other W78 (Fld.other W74 (Fld.other W70 (Fld.other W66 (Fld.other W62 (Fld.other W58 (Fld.other W54 (Fld.other W50 (Fld.other W46 (Fld.other W40 (Fld.ext E36 G33_2) (Or.inl ne187)) (Or.inl ne187)) (Or.inl ne187)) (Or.inl ne187)) (Or.inl ne187)) (Or.inl ne187)) (Or.inl ne187)) (Or.inl ne187)) (Or.inl ne187)) (Or.inl ne187)) (Or.inl ne187)) (Or.inl ne187)) (Or.inl ne187)) (Or.inl ne187)) (Or.inl ne187)) (Or.inl ne187)) (Or.inl ne187)) (Or.inl ne187)) (Or.inl ne187)) (Or.inl ne187)) (Or.inl ne187)) (Or.inl ne187)) (Or.inl ne187)) (Or.inl ne187)) (Or.inl ne187)) (Or.inl ne187)) (Or.inl ne187)) (Or.inl ne187)) (Or.inl ne187)) (Or.inl ne187)) (Or.inl ne187)) (Or.inl ne187)) (Or.inl ne187)) (Or.inl ne187))) Kp184 (ninS ne188 nin0))
    have Fc190 : Fld Z T184.heap b6 "java/lang/String" "coder" "B" (.int (0 : Int32)) := by rw [← hcd1]; exact F189
    have ne191 : tb_33 ≠ b36 := own_ne (by omega)
    have ne192 : tb_33 ≠ b176 := own_ne (by omega)
    have F193 := (Arv.keep ((Arv.other (Arv.other (Arv.other (Arv.other (Arv.other (Arv.other (Arv.other (Arv.other (Arv.other (Arv.other (Arv.other (Arv.other (Arv.other (Arv.other (Arv.other (Arv.other (Arv.other (Arv.other (Arv.other (Arv.other (Arv.other (Arv.other (Arv.other (Arv.other (Arv.other (Arv.other (Arv.other (Arv.other (Arv.other (Arv.other (Arv.other (Arv.other (Arv.other (Arv.other (G33_3.ext E36) W40 ne191) W46 ne191) W50 ne191) W54 ne191) W58 ne191) W62 ne191) W66 ne191) W70 ne191) W74 ne191) W78 ne191) W82 ne191) W86 ne191) W90 ne191) W94 ne191) W98 ne191) W102 ne191) W106 ne191) W110 ne191) W114 ne191) W118 ne191) W122 ne191) W126 ne191) W130 ne191) W134 ne191) W138 ne191) W142 ne191) W146 ne191) W150 ne191) W154 ne191) W158 ne191) W162 ne191) W166 ne191) W170 ne191) W174 ne191).ext E176) Kp184 (ninS ne192 nin0))
    have Vx194 : Arv Z T184.heap tb_33 kb_33 .byte (3 : Int32) (own_lb [y0, y1, y2]) (.int (0 : Int32)) := by have q := F193; rw [hls1, hnx1] at q; exact q
    have Fc195 : Fld Z T184.heap b176 "java/lang/String" "coder" "B" (.int (0 : Int32)) := by rw [← hcd2]; exact G184_2
    have Vx196 : Arv Z T184.heap tb_184 kb_184 .byte (34 : Int32) (own_lb (own_pre ++ [y0, y1, y2])) (.int (0 : Int32)) := by have q := G184_3; rw [hls2, hnx2] at q; exact q
    show ∃ t o, Steps p.tables e below (T184.setTop (mkF m 249 #[.val (.int x1), .val (.int x2), .val (.int y0), .val (.int y1), .val (.int y2), .val (.ref b6), .val (.ref b36), .unset, .unset, .unset, .unset] [(.ref b176)])) t ∧ _
    refine own_go (fun _ => XS.astore X184.here hx rfl (hb hby at_249) rfl rfl (l' := #[.val (.int x1), .val (.int x2), .val (.int y0), .val (.int y1), .val (.int y2), .val (.ref b6), .val (.ref b36), .val (.ref b176), .unset, .unset, .unset]) rfl) ?_
    refine own_go (fun _ => XS.aload X184.here hx rfl (hb hby at_251) rfl rfl) ?_
    show ∃ t o, Steps p.tables e below (T184.setTop (mkF m 253 #[.val (.int x1), .val (.int x2), .val (.int y0), .val (.int y1), .val (.int y2), .val (.ref b6), .val (.ref b36), .val (.ref b176), .unset, .unset, .unset] [(.ref b6)])) t ∧ _
    have F197 := (Exa.keep (Exa.ext E176 (Exa.wr W174 (Exa.wr W170 (Exa.wr W166 (Exa.wr W162 (Exa.wr W158 (Exa.wr W154 (Exa.wr W150 (Exa.wr W146 (Exa.wr W142 (Exa.wr W138 (Exa.wr W134 (Exa.wr W130 (Exa.wr W126 (Exa.wr W122 (Exa.wr W118 (Exa.wr W114 (Exa.wr W110 (Exa.wr W106 (Exa.wr W102 (Exa.wr W98 (Exa.wr W94 (Exa.wr W90 (Exa.wr W86 (Exa.wr W82 (Exa.wr W78 (Exa.wr W74 (Exa.wr W70 (Exa.wr W66 (Exa.wr W62 (Exa.wr W58 (Exa.wr W54 (Exa.wr W50 (Exa.wr W46 (Exa.wr W40 (Exa.ext E36 G33_0)))))))))))))))))))))))))))))))))))) Kp184)
    have F198 := (Fld.keep (Fld.ext E176 (Fld.other W174 (Fld.other W170 (Fld.other W166 (Fld.other W162 (Fld.other W158 (Fld.other W154 (Fld.other W150 (Fld.other W146 (Fld.other W142 (Fld.other W138 (Fld.other W134 (Fld.other W130 (Fld.other W126 (Fld.other W122 (Fld.other W118 (Fld.other W114 (Fld.other W110 (Fld.other W106 (Fld.other W102 (Fld.other W98 (Fld.other W94 (Fld.other W90 (Fld.other W86 (Fld.other W82 (Fld.other W78 (Fld.other W74 (Fld.other W70 (Fld.other W66 (Fld.other W62 (Fld.other W58 (Fld.other W54 (Fld.other W50 (Fld.other W46 (Fld.other W40 (Fld.ext E36 G33_1) (Or.inl ne187)) (Or.inl ne187)) (Or.inl ne187)) (Or.inl ne187)) (Or.inl ne187)) (Or.inl ne187)) (Or.inl ne187)) (Or.inl ne187)) (Or.inl ne187)) (Or.inl ne187)) (Or.inl ne187)) (Or.inl ne187)) (Or.inl ne187)) (Or.inl ne187)) (Or.inl ne187)) (Or.inl ne187)) (Or.inl ne187)) (Or.inl ne187)) (Or.inl ne187)) (Or.inl ne187)) (Or.inl ne187)) (Or.inl ne187)) (Or.inl ne187)) (Or.inl ne187)) (Or.inl ne187)) (Or.inl ne187)) (Or.inl ne187)) (Or.inl ne187)) (Or.inl ne187)) (Or.inl ne187)) (Or.inl ne187)) (Or.inl ne187)) (Or.inl ne187)) (Or.inl ne187))) Kp184 (ninS ne188 nin0))
    have F199 := (Old.keep F179 Kp184 (allS ge180 all0))
    have zl200 : n0 ≤ T184.heap.size := by omega
    obtain ⟨_, _, ⟨T201, L201, k201, n201⟩, -, X201, hSn201, hgn201, ⟨Lc201, hQ201, l201, y201, z201, cr201⟩, st201⟩ := callSS X184 hx (y := (⟨"com/example/earnest_roster/earnestroster/ApiError", "noImportWithId", "(Ljava/lang/String;)Lcom/example/earnest_roster/earnestroster/ApiError;"⟩ : MethodName)) hown (mvT hZ w_30) (mvT hZ w_31) (mvT hZ w_32) (mvT hZ w_33) (by decide) (backOfSH (W := 0) (rmNiL l Z a0 hw [] b6 tb_33 kb_33 (3 : Int32) (own_lb [y0, y1, y2]) zc T184.heap n0 zl200 F197 F198 Fc190 Vx194 F199 P1 hzc (rfl : own_fit (own_lb [y0, y1, y2]) (3 : Int32)) ((Nat.le_of_ble_eq_true rfl) : (own_lb [y0, y1, y2]).length ≤ 3) hEL) hZ w_33 w_32 (by decide) (by decide) hEL CH186.1) (g := (mkF m 253 #[.val (.int x1), .val (.int x2), .val (.int y0), .val (.int y1), .val (.int y2), .val (.ref b6), .val (.ref b36), .val (.ref b176), .unset, .unset, .unset] [(.ref b6)])) rfl (by rw [hml]; rfl) (argsL := [(.ref b6)]) (rest := []) (lenOf pd_h3cd7e6a5 rfl) rfl (by show 2 * 0 + _ ≤ _; exact Nat.le_of_eq rfl) (hb hby at_253) (fun _ _ => ⟨rfl, rfl, (by decide : 8 + 11 ≤ _), (by decide : 249 + 620 ≤ _)⟩)
    dsimp only [Pt.U, Pt.locs, Pt.cells, Pt.slots] at X201 l201 y201 z201 st201 hQ201 hSn201 hgn201 cr201
    rw [l201, y201, z201] at X201
    have hZ : Z.Warmed39 (s.setVm T201.vm).vm := State.Warmed39.trans (t := s.setVm s.vm) hZ hSn201.1
    have hown : (s.setVm T201.vm).vm.findClass "com/example/earnest_roster/earnestroster/ApiErrorNoImportWithIdPinLaw" = some m.cls := by rw [show (s.setVm T201.vm).vm = T201.vm from rfl, hSn201.1.alike.findClass]; exact hown
    have hS : s.Since T201.vm T201.heap.size := foldS (T := T184) hS (Nat.zero_le _) hSn201 hgn201
    have X201 : Stand p l e _ (s.setVm T201.vm) m _ below meth c T201 _ _ _ := X201
    obtain ⟨er_201, ac_201, ta_201, ka_201, bm_201, tm_201, km_201, nm_201, rfl, Nq201, Kp201, G201_0, G201_1, G201_2, G201_3, G201_4, G201_5, G201_6, G201_7, G201_8, G201_9, G201_10, H201_0⟩ := hQ201
    have N201 := Fr.app N184 Nq201
    refine own_goT st201 ?_
    have le_201 : T184.heap.size ≤ T201.heap.size := Kp201.1
    have K201 : Keep h0 T201.heap [] := Keep.trans K184 Kp201 all0
    have CH202 := CHr.trans CH186 cr201
    have lt_er_201 : er_201 < T201.heap.size := (G201_0).lt
    have lt_ac_201 : ac_201 < T201.heap.size := (G201_3).lt
    have lt_ta_201 : ta_201 < T201.heap.size := (G201_6).lt
    have lt_bm_201 : bm_201 < T201.heap.size := (G201_7).lt
    have lt_tm_201 : tm_201 < T201.heap.size := (G201_10).lt
    refine own_go (fun _ => XS.astore X201.here hx rfl (hb hby at_256) rfl rfl (l' := #[.val (.int x1), .val (.int x2), .val (.int y0), .val (.int y1), .val (.int y2), .val (.ref b6), .val (.ref b36), .val (.ref b176), .val (.ref er_201), .unset, .unset]) rfl) ?_
    show ∃ t o, Steps p.tables e below (T201.setTop (mkF m 258 #[.val (.int x1), .val (.int x2), .val (.int y0), .val (.int y1), .val (.int y2), .val (.ref b6), .val (.ref b36), .val (.ref b176), .val (.ref er_201), .unset, .unset] [])) t ∧ _
    obtain ⟨T203, h203, X203, e203, E203, A203, D203, -, st203⟩ := newO X201 hx hZ hown w_0 w_1 w_2 rfl (g := (mkF m 258 #[.val (.int x1), .val (.int x2), .val (.int y0), .val (.int y1), .val (.int y2), .val (.ref b6), .val (.ref b36), .val (.ref b176), .val (.ref er_201), .unset, .unset] [])) rfl (hb hby at_258) (by decide) (by decide)
    obtain ⟨b203, g203⟩ : ∃ z, z = T201.heap.size := ⟨_, rfl⟩
    rw [← g203] at A203 D203 st203
    refine own_go st203 ?_
    have le_203 : T201.heap.size ≤ h203.size := E203.1
    have lt_b203 : b203 < h203.size := A203.lt
    have F_coder_b203 : Fld Z h203 b203 "java/lang/String" "coder" "B" (.int (0 : Int32)) := D203 (Or.inr w_27) (ty := .byte) (by decide)
    have F_value_b203 : Fld Z h203 b203 "java/lang/String" "value" "[B" .null := D203 (Or.inr w_29) (ty := (.array .byte)) (by decide)
    have K203 : Keep h0 h203 [] := Keep.ext K201 E203
    have CH204 := CHr.trans CH202 (CHr.ext E203 CH202.1)
    refine own_go (fun _ => XS.dup X203.here hx rfl (hb hby at_261) rfl rfl) ?_
    refine own_go (fun _ => XS.iconst X203.here hx rfl (hb hby at_262)) ?_
    show ∃ t o, Steps p.tables e below (T203.setTop (mkF m 263 #[.val (.int x1), .val (.int x2), .val (.int y0), .val (.int y1), .val (.int y2), .val (.ref b6), .val (.ref b36), .val (.ref b176), .val (.ref er_201), .unset, .unset] [(.int (0 : Int32)), (.ref b203), (.ref b203)])) t ∧ _
    obtain ⟨T205, h205, k205, X205, e205, E205, A205, st205⟩ := newP (aty := .char) X203 hx hZ w_3 e203 (g := (mkF m 263 #[.val (.int x1), .val (.int x2), .val (.int y0), .val (.int y1), .val (.int y2), .val (.ref b6), .val (.ref b36), .val (.ref b176), .val (.ref er_201), .unset, .unset] [(.int (0 : Int32)), (.ref b203), (.ref b203)])) rfl (hb hby at_263) rfl (by decide) (cap := 0) (by decide) (by decide) (by decide) (by decide)
    obtain ⟨b205, g205⟩ : ∃ z, z = h203.size := ⟨_, rfl⟩
    rw [← g205] at A205 st205
    refine own_go st205 ?_
    have le_205 : h203.size ≤ h205.size := E205.1
    have lt_b205 : b205 < h205.size := A205.lt
    have V_b205 : Arv Z h205 b205 k205 .char (0 : Int32) [] (.int (0 : Int32)) := (Arv.new A205 (by decide)).pad (pad_rep [] (.int (0 : Int32)) 0)
    have K205 : Keep h0 h205 [] := Keep.ext K203 E205
    have CH206 := CHr.trans CH204 (CHr.ext E205 CH204.1)
    show ∃ t o, Steps p.tables e below (T205.setTop (mkF m 265 #[.val (.int x1), .val (.int x2), .val (.int y0), .val (.int y1), .val (.int y2), .val (.ref b6), .val (.ref b36), .val (.ref b176), .val (.ref er_201), .unset, .unset] [(.ref b205), (.ref b203), (.ref b203)])) t ∧ _
    have F207 := (Exa.ext E205 A203)
    have F208 := (Fld.ext E205 F_value_b203)
    have F209 := (Fld.ext E205 F_coder_b203)
    have F210 := (((Old.keep F199 Kp201 all0).ext E203).ext E205)
    have ge211 : n0 ≤ b203 := by omega
    have zl212 : n0 ≤ h205.size := by omega
    obtain ⟨_, _, ⟨T213, L213, k213, n213⟩, -, X213, hSn213, hgn213, ⟨Lc213, hQ213, l213, y213, z213, cr213⟩, st213⟩ := X205.specialBackS hx (y := (⟨"java/lang/String", "<init>", "([C)V"⟩ : MethodName)) rfl hown (mvT hZ w_4) (mvT hZ w_5) (mvT hZ w_6) (by decide) (backOfSH (W := 1) (rmS1 l Z a0 hw [] b203 b205 k205 h205 n0 zl212 F207 F208 F209 V_b205 F210 ge211 hEL) hZ w_6 w_2 (by decide) (by decide) hEL CH206.1) (g := (mkF m 265 #[.val (.int x1), .val (.int x2), .val (.int y0), .val (.int y1), .val (.int y2), .val (.ref b6), .val (.ref b36), .val (.ref b176), .val (.ref er_201), .unset, .unset] [(.ref b205), (.ref b203), (.ref b203)])) rfl (by rw [hml]; rfl) (Steps.refl _) (a := b203) (argsL := [(.ref b205)]) (rest := [(.ref b203)]) (lenOf pd__28_5bC_29V rfl) rfl (by show 2 * 0 + _ ≤ _; exact Nat.le_of_eq rfl) (hb hby at_265) (fun _ _ => ⟨rfl, e205, (by decide : 21 + 4 ≤ _), (by decide : 873 + 8 ≤ _)⟩)
    dsimp only [Pt.U, Pt.locs, Pt.cells, Pt.slots] at X213 l213 y213 z213 st213 hQ213 hSn213 hgn213 cr213
    rw [l213, y213, z213] at X213
    have hZ : Z.Warmed39 (s.setVm T213.vm).vm := State.Warmed39.trans (t := s.setVm T201.vm) hZ hSn213.1
    have hown : (s.setVm T213.vm).vm.findClass "com/example/earnest_roster/earnestroster/ApiErrorNoImportWithIdPinLaw" = some m.cls := by rw [show (s.setVm T213.vm).vm = T213.vm from rfl, hSn213.1.alike.findClass]; exact hown
    have hS : s.Since T213.vm T213.heap.size := foldS (T := T205) hS (by rw [e205]; omega) hSn213 hgn213
    have X213 : Stand p l e _ (s.setVm T213.vm) m _ below meth c T213 _ _ _ := X213
    obtain ⟨tb_213, kb_213, rfl, Nq213, Kp213, G213_0, G213_1, G213_2, G213_3⟩ := hQ213
    have N213 := Fr.app N201 Nq213
    refine own_goT st213 ?_
    have le_213 : h205.size ≤ T213.heap.size := Kp213.1
    have sz214 : h0.size ≤ b203 := by omega
    have K213 : Keep h0 T213.heap [] := Keep.trans K205 Kp213 (allS (Or.inr sz214) all0)
    have CH215 := CHr.trans CH206 cr213
    have lt_tb_213 : tb_213 < T213.heap.size := (G213_3).lt
    have F216 := (Exa.keep (Exa.ext E205 (Exa.ext E203 G201_0)) Kp213)
    have ne217 : tb_213 ≠ er_201 := Ne.symm (Exa.neArv F216 G213_3 w_35)
    show ∃ t o, Steps p.tables e below (T213.setTop (mkF m 268 #[.val (.int x1), .val (.int x2), .val (.int y0), .val (.int y1), .val (.int y2), .val (.ref b6), .val (.ref b36), .val (.ref b176), .val (.ref er_201), .unset, .unset] [(.ref b203)])) t ∧ _
    have F218 := (Old.keep F210 Kp213 (allS ge211 all0))
    have zl219 : n0 ≤ T213.heap.size := by omega
    obtain ⟨_, _, ⟨T220, L220, k220, n220⟩, -, X220, hSn220, hgn220, ⟨Lc220, hQ220, l220, y220, z220, cr220⟩, st220⟩ := callSS X213 hx (y := (⟨"com/example/earnest_roster/earnestroster/ApiError", "noImportWithId", "(Ljava/lang/String;)Lcom/example/earnest_roster/earnestroster/ApiError;"⟩ : MethodName)) hown (mvT hZ w_30) (mvT hZ w_31) (mvT hZ w_32) (mvT hZ w_33) (by decide) (backOfSH (W := 0) (rmNiL l Z a0 hw [] b203 tb_213 kb_213 (0 : Int32) ([]) zc T213.heap n0 zl219 G213_0 G213_1 G213_2 G213_3 F218 P1 hzc (rfl : own_fit [] (0 : Int32)) ((Nat.le_of_ble_eq_true rfl) : [].length ≤ 3) hEL) hZ w_33 w_32 (by decide) (by decide) hEL CH215.1) (g := (mkF m 268 #[.val (.int x1), .val (.int x2), .val (.int y0), .val (.int y1), .val (.int y2), .val (.ref b6), .val (.ref b36), .val (.ref b176), .val (.ref er_201), .unset, .unset] [(.ref b203)])) rfl (by rw [hml]; rfl) (argsL := [(.ref b203)]) (rest := []) (lenOf pd_h3cd7e6a5 rfl) rfl (by show 2 * 0 + _ ≤ _; exact Nat.le_of_eq rfl) (hb hby at_268) (fun _ _ => ⟨rfl, rfl, (by decide : 25 + 11 ≤ _), (by decide : 881 + 620 ≤ _)⟩)
    dsimp only [Pt.U, Pt.locs, Pt.cells, Pt.slots] at X220 l220 y220 z220 st220 hQ220 hSn220 hgn220 cr220
    rw [l220, y220, z220] at X220
    have hZ : Z.Warmed39 (s.setVm T220.vm).vm := State.Warmed39.trans (t := s.setVm T213.vm) hZ hSn220.1
    have hown : (s.setVm T220.vm).vm.findClass "com/example/earnest_roster/earnestroster/ApiErrorNoImportWithIdPinLaw" = some m.cls := by rw [show (s.setVm T220.vm).vm = T220.vm from rfl, hSn220.1.alike.findClass]; exact hown
    have hS : s.Since T220.vm T220.heap.size := foldS (T := T213) hS (by omega) hSn220 hgn220
    have X220 : Stand p l e _ (s.setVm T220.vm) m _ below meth c T220 _ _ _ := X220
    obtain ⟨er_220, ac_220, ta_220, ka_220, bm_220, tm_220, km_220, nm_220, rfl, Nq220, Kp220, G220_0, G220_1, G220_2, G220_3, G220_4, G220_5, G220_6, G220_7, G220_8, G220_9, G220_10, H220_0⟩ := hQ220
    have N220 := Fr.app N213 Nq220
    refine own_goT st220 ?_
    have le_220 : T213.heap.size ≤ T220.heap.size := Kp220.1
    have K220 : Keep h0 T220.heap [] := Keep.trans K213 Kp220 all0
    have CH221 := CHr.trans CH215 cr220
    have lt_er_220 : er_220 < T220.heap.size := (G220_0).lt
    have lt_ac_220 : ac_220 < T220.heap.size := (G220_3).lt
    have lt_ta_220 : ta_220 < T220.heap.size := (G220_6).lt
    have lt_bm_220 : bm_220 < T220.heap.size := (G220_7).lt
    have lt_tm_220 : tm_220 < T220.heap.size := (G220_10).lt
    refine own_go (fun _ => XS.astore X220.here hx rfl (hb hby at_271) rfl rfl (l' := #[.val (.int x1), .val (.int x2), .val (.int y0), .val (.int y1), .val (.int y2), .val (.ref b6), .val (.ref b36), .val (.ref b176), .val (.ref er_201), .val (.ref er_220), .unset]) rfl) ?_
    refine own_go (fun _ => XS.iconst X220.here hx rfl (hb hby at_273)) ?_
    refine own_go (fun _ => XS.istore X220.here hx rfl (hb hby at_274) rfl (l' := #[.val (.int x1), .val (.int x2), .val (.int y0), .val (.int y1), .val (.int y2), .val (.ref b6), .val (.ref b36), .val (.ref b176), .val (.ref er_201), .val (.ref er_220), .val (.int (1 : Int32))]) rfl) ?_
    refine own_go (fun _ => XS.iload X220.here hx rfl (hb hby at_276) rfl) ?_
    show ∃ t o, Steps p.tables e below (T220.setTop (mkF m 278 #[.val (.int x1), .val (.int x2), .val (.int y0), .val (.int y1), .val (.int y2), .val (.ref b6), .val (.ref b36), .val (.ref b176), .val (.ref er_201), .val (.ref er_220), .val (.int (1 : Int32))] [(.int (1 : Int32))])) t ∧ _
    refine own_go (fun _ => XS.ifNo X220.here hx rfl (hb hby at_278) rfl ((if0 _ _).trans (feq (by decide : ¬ ((1 : Int32) = (0 : Int32)))).1)) ?_
    obtain ⟨a222, T222, h222, kS222, b222, kb222, X222, e222, E222, hS, hk222, hZ, hown, A222, Fc222, Fv222, Av222, lta222, ltb222, cr222, -, hne222, st222⟩ := ldcCH X220 hx hZ hown w_185 wS rfl hS (by omega) hEL own_mem3 CH221.1 (vs := [(.int (110 : Int32)), (.int (111 : Int32)), (.int (116 : Int32)), (.int (95 : Int32)), (.int (102 : Int32)), (.int (111 : Int32)), (.int (117 : Int32)), (.int (110 : Int32)), (.int (100 : Int32))]) (z := 9) own_ct_6e_6f_74_5f_66_6f_75_6e_64 (by decide) rfl (g := (mkF m 281 #[.val (.int x1), .val (.int x2), .val (.int y0), .val (.int y1), .val (.int y2), .val (.ref b6), .val (.ref b36), .val (.ref b176), .val (.ref er_201), .val (.ref er_220), .val (.int (1 : Int32))] [])) rfl (hb hby at_281) (n := 36) (by decide) (by decide) (by decide) (by decide)
    refine own_go st222 ?_
    have K222 : Keep h0 h222 [] := Keep.ext K220 E222
    have le_222 : T220.heap.size ≤ h222.size := E222.1
    have CH223 := CHr.trans CH221 cr222
    have lt_a222 := own_ltn lta222
    have lt_b222 := own_ltn ltb222
    have Pk224 : Arv Z h222 b222 kb222 .byte (9 : Int32) own_nf (.int (0 : Int32)) := Av222
    refine own_go (fun _ => XS.aload X222.here hx rfl (hb hby at_283) rfl rfl) ?_
    show ∃ t o, Steps p.tables e below (T222.setTop (mkF m 285 #[.val (.int x1), .val (.int x2), .val (.int y0), .val (.int y1), .val (.int y2), .val (.ref b6), .val (.ref b36), .val (.ref b176), .val (.ref er_201), .val (.ref er_220), .val (.int (1 : Int32))] [(.ref er_201), (.ref a222)])) t ∧ _
    have F225 := (Exa.ext E222 (Exa.keep F216 Kp220))
    have ne226 : er_201 ≠ b203 := own_ne (by omega)
    have F227 := (Fld.ext E222 (Fld.keep (Fld.keep (Fld.ext E205 (Fld.ext E203 G201_1)) Kp213 (ninS ne226 nin0)) Kp220 nin0))
    have F228 := ((Old.keep F218 Kp220 all0).ext E222)
    have zl229 : n0 ≤ h222.size := by omega
    obtain ⟨cq230, kq230, q230a, q230b, q230c⟩ := isOf hZ e222 F225
    obtain ⟨_, _, ⟨T230, L230, k230, n230⟩, -, X230, ⟨Lc230, hQ230, l230, y230, z230⟩, st230⟩ := X222.virtualBack hx (y := (⟨"com/example/earnest_roster/earnestroster/ApiError", "getCode", "()Ljava/lang/String;"⟩ : MethodName)) (z := (⟨"com/example/earnest_roster/earnestroster/ApiError", "getCode", "()Ljava/lang/String;"⟩ : MethodName)) hown (mvT hZ w_186) (mvT hZ w_187) (notFace_of_selects (args := #[]) (mvT hZ w_189)) (mvT hZ w_189) (mvT hZ w_188) (by decide) (backOf (W := 1) (rmGcd l Z a0 hw [] er_201 ac_201 h222 n0 zl229 F227 F228) hZ w_190 w_32 (by decide) (by decide)) q230a q230c (g := (mkF m 285 #[.val (.int x1), .val (.int x2), .val (.int y0), .val (.int y1), .val (.int y2), .val (.ref b6), .val (.ref b36), .val (.ref b176), .val (.ref er_201), .val (.ref er_220), .val (.int (1 : Int32))] [(.ref er_201), (.ref a222)])) rfl (by rw [hml]; rfl) (Steps.refl _) (argsL := []) (rest := [(.ref a222)]) (lenOf pd__28_29Ljava_2flang_2fString_3b rfl) rfl (by show 2 * 0 + _ ≤ _; exact Nat.le_of_eq rfl) (hb hby at_285) (fun _ _ => ⟨rfl, e222, (by decide : 38 + 0 ≤ _), (by decide : 1541 + 0 ≤ _)⟩)
    dsimp only [Pt.U, Pt.locs, Pt.cells, Pt.slots] at X230 l230 y230 z230 st230 hQ230
    rw [l230, y230, z230] at X230
    obtain ⟨rfl, Nq230, e230⟩ := hQ230
    have N230 := Fr.app N220 Nq230
    refine own_goT st230 ?_
    show ∃ t o, Steps p.tables e below (T230.setTop (mkF m 288 #[.val (.int x1), .val (.int x2), .val (.int y0), .val (.int y1), .val (.int y2), .val (.ref b6), .val (.ref b36), .val (.ref b176), .val (.ref er_201), .val (.ref er_220), .val (.int (1 : Int32))] [(.ref ac_201), (.ref a222)])) t ∧ _
    have F231 := (Exa.ext E222 (Exa.keep (Exa.keep (Exa.ext E205 (Exa.ext E203 G201_3)) Kp213) Kp220))
    have ne232 : ac_201 ≠ b203 := own_ne (by omega)
    have F233 := (Fld.ext E222 (Fld.keep (Fld.keep (Fld.ext E205 (Fld.ext E203 G201_4)) Kp213 (ninS ne232 nin0)) Kp220 nin0))
    have F234 := (Fld.ext E222 (Fld.keep (Fld.keep (Fld.ext E205 (Fld.ext E203 G201_5)) Kp213 (ninS ne232 nin0)) Kp220 nin0))
    have ne235 : ta_201 ≠ b203 := own_ne (by omega)
    have F236 := ((Arv.keep (Arv.keep ((G201_6.ext E203).ext E205) Kp213 (ninS ne235 nin0)) Kp220 nin0).ext E222)
    obtain ⟨cq237, kq237, q237a, q237b, q237c⟩ := isOf hZ e230 A222
    obtain ⟨_, _, ⟨T237, L237, k237, n237⟩, -, X237, ⟨Lc237, hQ237, l237, y237, z237⟩, st237⟩ := X230.virtualBack hx (y := (⟨"java/lang/String", "equals", "(Ljava/lang/Object;)Z"⟩ : MethodName)) (z := (⟨"java/lang/String", "equals", "(Ljava/lang/Object;)Z"⟩ : MethodName)) hown (mvT hZ w_191) (mvT hZ w_192) (notFace_of_selects (args := #[]) (mvT hZ w_194)) (mvT hZ w_194) (mvT hZ w_193) (by decide) (backOf (W := 0) (rmEqT l Z a0 hw [] a222 ac_201 b222 kb222 (9 : Int32) own_nf ta_201 ka_201 (9 : Int32) own_nf (0 : Int32) zc h222 n0 zl229 A222 Fv222 Fc222 Pk224 F231 F233 F234 F236 F228 P1 hzc (rfl : own_fit own_nf (9 : Int32)) (rfl : own_fit own_nf (9 : Int32)) (rfl : own_nf = own_nf)) hZ w_195 w_2 (by decide) (by decide)) q237a q237c (g := (mkF m 288 #[.val (.int x1), .val (.int x2), .val (.int y0), .val (.int y1), .val (.int y2), .val (.ref b6), .val (.ref b36), .val (.ref b176), .val (.ref er_201), .val (.ref er_220), .val (.int (1 : Int32))] [(.ref ac_201), (.ref a222)])) rfl (by rw [hml]; rfl) (Steps.refl _) (argsL := [(.ref ac_201)]) (rest := []) (lenOf pd__28Ljava_2flang_2fObject_3b_29Z rfl) rfl (by show 2 * 0 + _ ≤ _; exact Nat.le_of_eq rfl) (hb hby at_288) (fun _ _ => ⟨rfl, e230, (by decide : 38 + 0 ≤ _), (by decide : 1541 + 0 ≤ _)⟩)
    dsimp only [Pt.U, Pt.locs, Pt.cells, Pt.slots] at X237 l237 y237 z237 st237 hQ237
    rw [l237, y237, z237] at X237
    obtain ⟨rfl, Nq237, e237⟩ := hQ237
    have N237 := Fr.app N230 Nq237
    refine own_goT st237 ?_
    show ∃ t o, Steps p.tables e below (T237.setTop (mkF m 291 #[.val (.int x1), .val (.int x2), .val (.int y0), .val (.int y1), .val (.int y2), .val (.ref b6), .val (.ref b36), .val (.ref b176), .val (.ref er_201), .val (.ref er_220), .val (.int (1 : Int32))] [(.int (1 : Int32))])) t ∧ _
    refine own_go (fun _ => XS.ifNo X237.here hx rfl (hb hby at_291) rfl ((if0 _ _).trans (feq (by decide : ¬ ((1 : Int32) = (0 : Int32)))).1)) ?_
    refine own_go (fun _ => XS.iconst X237.here hx rfl (hb hby at_294)) ?_
    refine own_go (fun _ => XS.goto X237.here hx rfl (pc0 := 295) (pc' := 299) rfl (hb hby at_295) (by decide) (by decide)) ?_
    refine own_go (fun _ => XS.istore X237.here hx rfl (hb hby at_299) rfl (l' := #[.val (.int x1), .val (.int x2), .val (.int y0), .val (.int y1), .val (.int y2), .val (.ref b6), .val (.ref b36), .val (.ref b176), .val (.ref er_201), .val (.ref er_220), .val (.int (1 : Int32))]) rfl) ?_
    refine own_go (fun _ => XS.iload X237.here hx rfl (hb hby at_301) rfl) ?_
    show ∃ t o, Steps p.tables e below (T237.setTop (mkF m 303 #[.val (.int x1), .val (.int x2), .val (.int y0), .val (.int y1), .val (.int y2), .val (.ref b6), .val (.ref b36), .val (.ref b176), .val (.ref er_201), .val (.ref er_220), .val (.int (1 : Int32))] [(.int (1 : Int32))])) t ∧ _
    refine own_go (fun _ => XS.ifNo X237.here hx rfl (hb hby at_303) rfl ((if0 _ _).trans (feq (by decide : ¬ ((1 : Int32) = (0 : Int32)))).1)) ?_
    refine own_go (fun _ => XS.aload X237.here hx rfl (hb hby at_306) rfl rfl) ?_
    refine own_go (fun _ => XS.aload X237.here hx rfl (hb hby at_308) rfl rfl) ?_
    show ∃ t o, Steps p.tables e below (T237.setTop (mkF m 310 #[.val (.int x1), .val (.int x2), .val (.int y0), .val (.int y1), .val (.int y2), .val (.ref b6), .val (.ref b36), .val (.ref b176), .val (.ref er_201), .val (.ref er_220), .val (.int (1 : Int32))] [(.ref er_201), (.ref b176)])) t ∧ _
    have F238 := (Fld.ext E222 (Fld.keep (Fld.keep (Fld.ext E205 (Fld.ext E203 G201_2)) Kp213 (ninS ne226 nin0)) Kp220 nin0))
    obtain ⟨cq239, kq239, q239a, q239b, q239c⟩ := isOf hZ e237 F225
    obtain ⟨_, _, ⟨T239, L239, k239, n239⟩, -, X239, ⟨Lc239, hQ239, l239, y239, z239⟩, st239⟩ := X237.virtualBack hx (y := (⟨"com/example/earnest_roster/earnestroster/ApiError", "getMessage", "()Ljava/lang/String;"⟩ : MethodName)) (z := (⟨"com/example/earnest_roster/earnestroster/ApiError", "getMessage", "()Ljava/lang/String;"⟩ : MethodName)) hown (mvT hZ w_196) (mvT hZ w_197) (notFace_of_selects (args := #[]) (mvT hZ w_199)) (mvT hZ w_199) (mvT hZ w_198) (by decide) (backOf (W := 1) (rmGms l Z a0 hw [] er_201 bm_201 h222 n0 zl229 F238 F228) hZ w_200 w_32 (by decide) (by decide)) q239a q239c (g := (mkF m 310 #[.val (.int x1), .val (.int x2), .val (.int y0), .val (.int y1), .val (.int y2), .val (.ref b6), .val (.ref b36), .val (.ref b176), .val (.ref er_201), .val (.ref er_220), .val (.int (1 : Int32))] [(.ref er_201), (.ref b176)])) rfl (by rw [hml]; rfl) (Steps.refl _) (argsL := []) (rest := [(.ref b176)]) (lenOf pd__28_29Ljava_2flang_2fString_3b rfl) rfl (by show 2 * 0 + _ ≤ _; exact Nat.le_of_eq rfl) (hb hby at_310) (fun _ _ => ⟨rfl, e237, (by decide : 38 + 0 ≤ _), (by decide : 1541 + 0 ≤ _)⟩)
    dsimp only [Pt.U, Pt.locs, Pt.cells, Pt.slots] at X239 l239 y239 z239 st239 hQ239
    rw [l239, y239, z239] at X239
    obtain ⟨rfl, Nq239, e239⟩ := hQ239
    have N239 := Fr.app N237 Nq239
    refine own_goT st239 ?_
    show ∃ t o, Steps p.tables e below (T239.setTop (mkF m 313 #[.val (.int x1), .val (.int x2), .val (.int y0), .val (.int y1), .val (.int y2), .val (.ref b6), .val (.ref b36), .val (.ref b176), .val (.ref er_201), .val (.ref er_220), .val (.int (1 : Int32))] [(.ref bm_201), (.ref b176)])) t ∧ _
    have F240 := (Exa.ext E222 (Exa.keep (Exa.keep (Exa.ext E205 (Exa.ext E203 (Exa.keep G184_0 Kp201))) Kp213) Kp220))
    have ne241 : b176 ≠ b203 := own_ne (by omega)
    have F242 := (Fld.ext E222 (Fld.keep (Fld.keep (Fld.ext E205 (Fld.ext E203 (Fld.keep G184_1 Kp201 nin0))) Kp213 (ninS ne241 nin0)) Kp220 nin0))
    have F243 := (Fld.ext E222 (Fld.keep (Fld.keep (Fld.ext E205 (Fld.ext E203 (Fld.keep Fc195 Kp201 nin0))) Kp213 (ninS ne241 nin0)) Kp220 nin0))
    have ne244 : tb_184 ≠ b203 := own_ne (by omega)
    have F245 := ((Arv.keep (Arv.keep (((Arv.keep Vx196 Kp201 nin0).ext E203).ext E205) Kp213 (ninS ne244 nin0)) Kp220 nin0).ext E222)
    have F246 := (Exa.ext E222 (Exa.keep (Exa.keep (Exa.ext E205 (Exa.ext E203 G201_7)) Kp213) Kp220))
    have ne247 : bm_201 ≠ b203 := own_ne (by omega)
    have F248 := (Fld.ext E222 (Fld.keep (Fld.keep (Fld.ext E205 (Fld.ext E203 G201_8)) Kp213 (ninS ne247 nin0)) Kp220 nin0))
    have F249 := (Fld.ext E222 (Fld.keep (Fld.keep (Fld.ext E205 (Fld.ext E203 G201_9)) Kp213 (ninS ne247 nin0)) Kp220 nin0))
    have ne250 : tm_201 ≠ b203 := own_ne (by omega)
    have F251 := ((Arv.keep (Arv.keep ((G201_10.ext E203).ext E205) Kp213 (ninS ne250 nin0)) Kp220 nin0).ext E222)
    obtain ⟨cq252, kq252, q252a, q252b, q252c⟩ := isOf hZ e239 F240
    obtain ⟨_, _, ⟨T252, L252, k252, n252⟩, -, X252, ⟨Lc252, hQ252, l252, y252, z252⟩, st252⟩ := X239.virtualBack hx (y := (⟨"java/lang/String", "equals", "(Ljava/lang/Object;)Z"⟩ : MethodName)) (z := (⟨"java/lang/String", "equals", "(Ljava/lang/Object;)Z"⟩ : MethodName)) hown (mvT hZ w_191) (mvT hZ w_192) (notFace_of_selects (args := #[]) (mvT hZ w_194)) (mvT hZ w_194) (mvT hZ w_193) (by decide) (backOf (W := 0) (rmEqT l Z a0 hw [] b176 bm_201 tb_184 kb_184 (34 : Int32) ((own_lb (own_pre ++ [y0, y1, y2]))) tm_201 km_201 nm_201 ((([] ++ (own_lb own_pre)) ++ (own_lb [y0, y1, y2]))) (0 : Int32) zc h222 n0 zl229 F240 F242 F243 F245 F246 F248 F249 F251 F228 P1 hzc (rfl : own_fit (own_lb (own_pre ++ [y0, y1, y2])) (34 : Int32)) (H201_0 : own_fit (([] ++ (own_lb own_pre)) ++ (own_lb [y0, y1, y2])) nm_201) ((by rw [own_lba]; rfl) : (own_lb (own_pre ++ [y0, y1, y2])) = (([] ++ (own_lb own_pre)) ++ (own_lb [y0, y1, y2])))) hZ w_195 w_2 (by decide) (by decide)) q252a q252c (g := (mkF m 313 #[.val (.int x1), .val (.int x2), .val (.int y0), .val (.int y1), .val (.int y2), .val (.ref b6), .val (.ref b36), .val (.ref b176), .val (.ref er_201), .val (.ref er_220), .val (.int (1 : Int32))] [(.ref bm_201), (.ref b176)])) rfl (by rw [hml]; rfl) (Steps.refl _) (argsL := [(.ref bm_201)]) (rest := []) (lenOf pd__28Ljava_2flang_2fObject_3b_29Z rfl) rfl (by show 2 * 0 + _ ≤ _; exact Nat.le_of_eq rfl) (hb hby at_313) (fun _ _ => ⟨rfl, e239, (by decide : 38 + 0 ≤ _), (by decide : 1541 + 0 ≤ _)⟩)
    dsimp only [Pt.U, Pt.locs, Pt.cells, Pt.slots] at X252 l252 y252 z252 st252 hQ252
    rw [l252, y252, z252] at X252
    obtain ⟨rfl, Nq252, e252⟩ := hQ252
    have N252 := Fr.app N239 Nq252
    refine own_goT st252 ?_
    show ∃ t o, Steps p.tables e below (T252.setTop (mkF m 316 #[.val (.int x1), .val (.int x2), .val (.int y0), .val (.int y1), .val (.int y2), .val (.ref b6), .val (.ref b36), .val (.ref b176), .val (.ref er_201), .val (.ref er_220), .val (.int (1 : Int32))] [(.int (1 : Int32))])) t ∧ _
    refine own_go (fun _ => XS.ifNo X252.here hx rfl (hb hby at_316) rfl ((if0 _ _).trans (feq (by decide : ¬ ((1 : Int32) = (0 : Int32)))).1)) ?_
    refine own_go (fun _ => XS.iconst X252.here hx rfl (hb hby at_319)) ?_
    refine own_go (fun _ => XS.goto X252.here hx rfl (pc0 := 320) (pc' := 324) rfl (hb hby at_320) (by decide) (by decide)) ?_
    refine own_go (fun _ => XS.istore X252.here hx rfl (hb hby at_324) rfl (l' := #[.val (.int x1), .val (.int x2), .val (.int y0), .val (.int y1), .val (.int y2), .val (.ref b6), .val (.ref b36), .val (.ref b176), .val (.ref er_201), .val (.ref er_220), .val (.int (1 : Int32))]) rfl) ?_
    refine own_go (fun _ => XS.iload X252.here hx rfl (hb hby at_326) rfl) ?_
    show ∃ t o, Steps p.tables e below (T252.setTop (mkF m 328 #[.val (.int x1), .val (.int x2), .val (.int y0), .val (.int y1), .val (.int y2), .val (.ref b6), .val (.ref b36), .val (.ref b176), .val (.ref er_201), .val (.ref er_220), .val (.int (1 : Int32))] [(.int (1 : Int32))])) t ∧ _
    refine own_go (fun _ => XS.ifNo X252.here hx rfl (hb hby at_328) rfl ((if0 _ _).trans (feq (by decide : ¬ ((1 : Int32) = (0 : Int32)))).1)) ?_
    obtain ⟨a253, T253, h253, kS253, b253, kb253, X253, e253, E253, hS, hk253, hZ, hown, A253, Fc253, Fv253, Av253, lta253, ltb253, cr253, -, hne253, st253⟩ := ldcCH X252 hx hZ hown w_185 wS e252 hS (by omega) hEL own_mem3 CH223.1 (vs := [(.int (110 : Int32)), (.int (111 : Int32)), (.int (116 : Int32)), (.int (95 : Int32)), (.int (102 : Int32)), (.int (111 : Int32)), (.int (117 : Int32)), (.int (110 : Int32)), (.int (100 : Int32))]) (z := 9) own_ct_6e_6f_74_5f_66_6f_75_6e_64 (by decide) rfl (g := (mkF m 331 #[.val (.int x1), .val (.int x2), .val (.int y0), .val (.int y1), .val (.int y2), .val (.ref b6), .val (.ref b36), .val (.ref b176), .val (.ref er_201), .val (.ref er_220), .val (.int (1 : Int32))] [])) rfl (hb hby at_331) (n := 36) (by decide) (by decide) (by decide) (by decide)
    refine own_go st253 ?_
    have K253 : Keep h0 h253 [] := Keep.ext K222 E253
    have le_253 : h222.size ≤ h253.size := E253.1
    have CH254 := CHr.trans CH223 cr253
    have lt_a253 := own_ltn lta253
    have lt_b253 := own_ltn ltb253
    have Pk255 : Arv Z h253 b253 kb253 .byte (9 : Int32) own_nf (.int (0 : Int32)) := Av253
    refine own_go (fun _ => XS.aload X253.here hx rfl (hb hby at_333) rfl rfl) ?_
    show ∃ t o, Steps p.tables e below (T253.setTop (mkF m 335 #[.val (.int x1), .val (.int x2), .val (.int y0), .val (.int y1), .val (.int y2), .val (.ref b6), .val (.ref b36), .val (.ref b176), .val (.ref er_201), .val (.ref er_220), .val (.int (1 : Int32))] [(.ref er_220), (.ref a253)])) t ∧ _
    have F256 := (Exa.ext E253 (Exa.ext E222 G220_0))
    have F257 := (Fld.ext E253 (Fld.ext E222 G220_1))
    have F258 := (F228.ext E253)
    have zl259 : n0 ≤ h253.size := by omega
    obtain ⟨cq260, kq260, q260a, q260b, q260c⟩ := isOf hZ e253 F256
    obtain ⟨_, _, ⟨T260, L260, k260, n260⟩, -, X260, ⟨Lc260, hQ260, l260, y260, z260⟩, st260⟩ := X253.virtualBack hx (y := (⟨"com/example/earnest_roster/earnestroster/ApiError", "getCode", "()Ljava/lang/String;"⟩ : MethodName)) (z := (⟨"com/example/earnest_roster/earnestroster/ApiError", "getCode", "()Ljava/lang/String;"⟩ : MethodName)) hown (mvT hZ w_186) (mvT hZ w_187) (notFace_of_selects (args := #[]) (mvT hZ w_189)) (mvT hZ w_189) (mvT hZ w_188) (by decide) (backOf (W := 1) (rmGcd l Z a0 hw [] er_220 ac_220 h253 n0 zl259 F257 F258) hZ w_190 w_32 (by decide) (by decide)) q260a q260c (g := (mkF m 335 #[.val (.int x1), .val (.int x2), .val (.int y0), .val (.int y1), .val (.int y2), .val (.ref b6), .val (.ref b36), .val (.ref b176), .val (.ref er_201), .val (.ref er_220), .val (.int (1 : Int32))] [(.ref er_220), (.ref a253)])) rfl (by rw [hml]; rfl) (Steps.refl _) (argsL := []) (rest := [(.ref a253)]) (lenOf pd__28_29Ljava_2flang_2fString_3b rfl) rfl (by show 2 * 0 + _ ≤ _; exact Nat.le_of_eq rfl) (hb hby at_335) (fun _ _ => ⟨rfl, e253, (by decide : 40 + 0 ≤ _), (by decide : 1581 + 0 ≤ _)⟩)
    dsimp only [Pt.U, Pt.locs, Pt.cells, Pt.slots] at X260 l260 y260 z260 st260 hQ260
    rw [l260, y260, z260] at X260
    obtain ⟨rfl, Nq260, e260⟩ := hQ260
    have N260 := Fr.app N252 Nq260
    refine own_goT st260 ?_
    show ∃ t o, Steps p.tables e below (T260.setTop (mkF m 338 #[.val (.int x1), .val (.int x2), .val (.int y0), .val (.int y1), .val (.int y2), .val (.ref b6), .val (.ref b36), .val (.ref b176), .val (.ref er_201), .val (.ref er_220), .val (.int (1 : Int32))] [(.ref ac_220), (.ref a253)])) t ∧ _
    have F261 := (Exa.ext E253 (Exa.ext E222 G220_3))
    have F262 := (Fld.ext E253 (Fld.ext E222 G220_4))
    have F263 := (Fld.ext E253 (Fld.ext E222 G220_5))
    have F264 := ((G220_6.ext E222).ext E253)
    obtain ⟨cq265, kq265, q265a, q265b, q265c⟩ := isOf hZ e260 A253
    obtain ⟨_, _, ⟨T265, L265, k265, n265⟩, -, X265, ⟨Lc265, hQ265, l265, y265, z265⟩, st265⟩ := X260.virtualBack hx (y := (⟨"java/lang/String", "equals", "(Ljava/lang/Object;)Z"⟩ : MethodName)) (z := (⟨"java/lang/String", "equals", "(Ljava/lang/Object;)Z"⟩ : MethodName)) hown (mvT hZ w_191) (mvT hZ w_192) (notFace_of_selects (args := #[]) (mvT hZ w_194)) (mvT hZ w_194) (mvT hZ w_193) (by decide) (backOf (W := 0) (rmEqT l Z a0 hw [] a253 ac_220 b253 kb253 (9 : Int32) own_nf ta_220 ka_220 (9 : Int32) own_nf (0 : Int32) zc h253 n0 zl259 A253 Fv253 Fc253 Pk255 F261 F262 F263 F264 F258 P1 hzc (rfl : own_fit own_nf (9 : Int32)) (rfl : own_fit own_nf (9 : Int32)) (rfl : own_nf = own_nf)) hZ w_195 w_2 (by decide) (by decide)) q265a q265c (g := (mkF m 338 #[.val (.int x1), .val (.int x2), .val (.int y0), .val (.int y1), .val (.int y2), .val (.ref b6), .val (.ref b36), .val (.ref b176), .val (.ref er_201), .val (.ref er_220), .val (.int (1 : Int32))] [(.ref ac_220), (.ref a253)])) rfl (by rw [hml]; rfl) (Steps.refl _) (argsL := [(.ref ac_220)]) (rest := []) (lenOf pd__28Ljava_2flang_2fObject_3b_29Z rfl) rfl (by show 2 * 0 + _ ≤ _; exact Nat.le_of_eq rfl) (hb hby at_338) (fun _ _ => ⟨rfl, e260, (by decide : 40 + 0 ≤ _), (by decide : 1581 + 0 ≤ _)⟩)
    dsimp only [Pt.U, Pt.locs, Pt.cells, Pt.slots] at X265 l265 y265 z265 st265 hQ265
    rw [l265, y265, z265] at X265
    obtain ⟨rfl, Nq265, e265⟩ := hQ265
    have N265 := Fr.app N260 Nq265
    refine own_goT st265 ?_
    show ∃ t o, Steps p.tables e below (T265.setTop (mkF m 341 #[.val (.int x1), .val (.int x2), .val (.int y0), .val (.int y1), .val (.int y2), .val (.ref b6), .val (.ref b36), .val (.ref b176), .val (.ref er_201), .val (.ref er_220), .val (.int (1 : Int32))] [(.int (1 : Int32))])) t ∧ _
    refine own_go (fun _ => XS.ifNo X265.here hx rfl (hb hby at_341) rfl ((if0 _ _).trans (feq (by decide : ¬ ((1 : Int32) = (0 : Int32)))).1)) ?_
    refine own_go (fun _ => XS.iconst X265.here hx rfl (hb hby at_344)) ?_
    refine own_go (fun _ => XS.goto X265.here hx rfl (pc0 := 345) (pc' := 349) rfl (hb hby at_345) (by decide) (by decide)) ?_
    refine own_go (fun _ => XS.istore X265.here hx rfl (hb hby at_349) rfl (l' := #[.val (.int x1), .val (.int x2), .val (.int y0), .val (.int y1), .val (.int y2), .val (.ref b6), .val (.ref b36), .val (.ref b176), .val (.ref er_201), .val (.ref er_220), .val (.int (1 : Int32))]) rfl) ?_
    refine own_go (fun _ => XS.iload X265.here hx rfl (hb hby at_351) rfl) ?_
    show ∃ t o, Steps p.tables e below (T265.setTop (mkF m 353 #[.val (.int x1), .val (.int x2), .val (.int y0), .val (.int y1), .val (.int y2), .val (.ref b6), .val (.ref b36), .val (.ref b176), .val (.ref er_201), .val (.ref er_220), .val (.int (1 : Int32))] [(.int (1 : Int32))])) t ∧ _
    refine own_go (fun _ => XS.ifNo X265.here hx rfl (hb hby at_353) rfl ((if0 _ _).trans (feq (by decide : ¬ ((1 : Int32) = (0 : Int32)))).1)) ?_
    obtain ⟨a266, T266, h266, kS266, b266, kb266, X266, e266, E266, hS, hk266, hZ, hown, A266, Fc266, Fv266, Av266, lta266, ltb266, cr266, -, hne266, st266⟩ := ldcCH X265 hx hZ hown w_206 wS e265 hS (by omega) hEL own_mem4 CH254.1 (vs := [(.int (116 : Int32)), (.int (104 : Int32)), (.int (101 : Int32)), (.int (114 : Int32)), (.int (101 : Int32)), (.int (32 : Int32)), (.int (105 : Int32)), (.int (115 : Int32)), (.int (32 : Int32)), (.int (110 : Int32)), (.int (111 : Int32)), (.int (32 : Int32)), (.int (105 : Int32)), (.int (109 : Int32)), (.int (112 : Int32)), (.int (111 : Int32)), (.int (114 : Int32)), (.int (116 : Int32)), (.int (32 : Int32)), (.int (119 : Int32)), (.int (105 : Int32)), (.int (116 : Int32)), (.int (104 : Int32)), (.int (32 : Int32)), (.int (116 : Int32)), (.int (104 : Int32)), (.int (101 : Int32)), (.int (32 : Int32)), (.int (105 : Int32)), (.int (100 : Int32)), (.int (32 : Int32))]) (z := 31) own_ctw_57 (by decide) rfl (g := (mkF m 356 #[.val (.int x1), .val (.int x2), .val (.int y0), .val (.int y1), .val (.int y2), .val (.ref b6), .val (.ref b36), .val (.ref b176), .val (.ref er_201), .val (.ref er_220), .val (.int (1 : Int32))] [])) rfl (hb hby at_356) (n := 124) (by decide) (by decide) (by decide) (by decide)
    refine own_go st266 ?_
    have K266 : Keep h0 h266 [] := Keep.ext K253 E266
    have le_266 : h253.size ≤ h266.size := E266.1
    have CH267 := CHr.trans CH254 cr266
    have lt_a266 := own_ltn lta266
    have lt_b266 := own_ltn ltb266
    have Pk268 : Arv Z h266 b266 kb266 .byte (31 : Int32) (own_lb own_pre) (.int (0 : Int32)) := Av266
    refine own_go (fun _ => XS.aload X266.here hx rfl (hb hby at_358) rfl rfl) ?_
    show ∃ t o, Steps p.tables e below (T266.setTop (mkF m 360 #[.val (.int x1), .val (.int x2), .val (.int y0), .val (.int y1), .val (.int y2), .val (.ref b6), .val (.ref b36), .val (.ref b176), .val (.ref er_201), .val (.ref er_220), .val (.int (1 : Int32))] [(.ref er_220), (.ref a266)])) t ∧ _
    have F269 := (Exa.ext E266 F256)
    have F270 := (Fld.ext E266 (Fld.ext E253 (Fld.ext E222 G220_2)))
    have F271 := (F258.ext E266)
    have zl272 : n0 ≤ h266.size := by omega
    obtain ⟨cq273, kq273, q273a, q273b, q273c⟩ := isOf hZ e266 F269
    obtain ⟨_, _, ⟨T273, L273, k273, n273⟩, -, X273, ⟨Lc273, hQ273, l273, y273, z273⟩, st273⟩ := X266.virtualBack hx (y := (⟨"com/example/earnest_roster/earnestroster/ApiError", "getMessage", "()Ljava/lang/String;"⟩ : MethodName)) (z := (⟨"com/example/earnest_roster/earnestroster/ApiError", "getMessage", "()Ljava/lang/String;"⟩ : MethodName)) hown (mvT hZ w_196) (mvT hZ w_197) (notFace_of_selects (args := #[]) (mvT hZ w_199)) (mvT hZ w_199) (mvT hZ w_198) (by decide) (backOf (W := 1) (rmGms l Z a0 hw [] er_220 bm_220 h266 n0 zl272 F270 F271) hZ w_200 w_32 (by decide) (by decide)) q273a q273c (g := (mkF m 360 #[.val (.int x1), .val (.int x2), .val (.int y0), .val (.int y1), .val (.int y2), .val (.ref b6), .val (.ref b36), .val (.ref b176), .val (.ref er_201), .val (.ref er_220), .val (.int (1 : Int32))] [(.ref er_220), (.ref a266)])) rfl (by rw [hml]; rfl) (Steps.refl _) (argsL := []) (rest := [(.ref a266)]) (lenOf pd__28_29Ljava_2flang_2fString_3b rfl) rfl (by show 2 * 0 + _ ≤ _; exact Nat.le_of_eq rfl) (hb hby at_360) (fun _ _ => ⟨rfl, e266, (by decide : 42 + 0 ≤ _), (by decide : 1709 + 0 ≤ _)⟩)
    dsimp only [Pt.U, Pt.locs, Pt.cells, Pt.slots] at X273 l273 y273 z273 st273 hQ273
    rw [l273, y273, z273] at X273
    obtain ⟨rfl, Nq273, e273⟩ := hQ273
    have N273 := Fr.app N265 Nq273
    refine own_goT st273 ?_
    show ∃ t o, Steps p.tables e below (T273.setTop (mkF m 363 #[.val (.int x1), .val (.int x2), .val (.int y0), .val (.int y1), .val (.int y2), .val (.ref b6), .val (.ref b36), .val (.ref b176), .val (.ref er_201), .val (.ref er_220), .val (.int (1 : Int32))] [(.ref bm_220), (.ref a266)])) t ∧ _
    have F274 := (Exa.ext E266 (Exa.ext E253 (Exa.ext E222 G220_7)))
    have F275 := (Fld.ext E266 (Fld.ext E253 (Fld.ext E222 G220_8)))
    have F276 := (Fld.ext E266 (Fld.ext E253 (Fld.ext E222 G220_9)))
    have F277 := (((G220_10.ext E222).ext E253).ext E266)
    obtain ⟨cq278, kq278, q278a, q278b, q278c⟩ := isOf hZ e273 A266
    obtain ⟨_, _, ⟨T278, L278, k278, n278⟩, -, X278, ⟨Lc278, hQ278, l278, y278, z278⟩, st278⟩ := X273.virtualBack hx (y := (⟨"java/lang/String", "equals", "(Ljava/lang/Object;)Z"⟩ : MethodName)) (z := (⟨"java/lang/String", "equals", "(Ljava/lang/Object;)Z"⟩ : MethodName)) hown (mvT hZ w_191) (mvT hZ w_192) (notFace_of_selects (args := #[]) (mvT hZ w_194)) (mvT hZ w_194) (mvT hZ w_193) (by decide) (backOf (W := 0) (rmEqT l Z a0 hw [] a266 bm_220 b266 kb266 (31 : Int32) (own_lb own_pre) tm_220 km_220 nm_220 ((([] ++ (own_lb own_pre)) ++ [])) (0 : Int32) zc h266 n0 zl272 A266 Fv266 Fc266 Pk268 F274 F275 F276 F277 F271 P1 hzc (rfl : own_fit (own_lb own_pre) (31 : Int32)) (H220_0 : own_fit (([] ++ (own_lb own_pre)) ++ []) nm_220) ((by simp) : (own_lb own_pre) = (([] ++ (own_lb own_pre)) ++ []))) hZ w_195 w_2 (by decide) (by decide)) q278a q278c (g := (mkF m 363 #[.val (.int x1), .val (.int x2), .val (.int y0), .val (.int y1), .val (.int y2), .val (.ref b6), .val (.ref b36), .val (.ref b176), .val (.ref er_201), .val (.ref er_220), .val (.int (1 : Int32))] [(.ref bm_220), (.ref a266)])) rfl (by rw [hml]; rfl) (Steps.refl _) (argsL := [(.ref bm_220)]) (rest := []) (lenOf pd__28Ljava_2flang_2fObject_3b_29Z rfl) rfl (by show 2 * 0 + _ ≤ _; exact Nat.le_of_eq rfl) (hb hby at_363) (fun _ _ => ⟨rfl, e273, (by decide : 42 + 0 ≤ _), (by decide : 1709 + 0 ≤ _)⟩)
    dsimp only [Pt.U, Pt.locs, Pt.cells, Pt.slots] at X278 l278 y278 z278 st278 hQ278
    rw [l278, y278, z278] at X278
    obtain ⟨rfl, Nq278, e278⟩ := hQ278
    have N278 := Fr.app N273 Nq278
    refine own_goT st278 ?_
    show ∃ t o, Steps p.tables e below (T278.setTop (mkF m 366 #[.val (.int x1), .val (.int x2), .val (.int y0), .val (.int y1), .val (.int y2), .val (.ref b6), .val (.ref b36), .val (.ref b176), .val (.ref er_201), .val (.ref er_220), .val (.int (1 : Int32))] [(.int (1 : Int32))])) t ∧ _
    refine own_go (fun _ => XS.ifNo X278.here hx rfl (hb hby at_366) rfl ((if0 _ _).trans (feq (by decide : ¬ ((1 : Int32) = (0 : Int32)))).1)) ?_
    refine own_go (fun _ => XS.iconst X278.here hx rfl (hb hby at_369)) ?_
    refine own_go (fun _ => XS.goto X278.here hx rfl (pc0 := 370) (pc' := 374) rfl (hb hby at_370) (by decide) (by decide)) ?_
    refine own_go (fun _ => XS.istore X278.here hx rfl (hb hby at_374) rfl (l' := #[.val (.int x1), .val (.int x2), .val (.int y0), .val (.int y1), .val (.int y2), .val (.ref b6), .val (.ref b36), .val (.ref b176), .val (.ref er_201), .val (.ref er_220), .val (.int (1 : Int32))]) rfl) ?_
    refine own_go (fun _ => XS.iload X278.here hx rfl (hb hby at_376) rfl) ?_
    show ∃ t o, Steps p.tables e below (T278.setTop (mkF m 378 #[.val (.int x1), .val (.int x2), .val (.int y0), .val (.int y1), .val (.int y2), .val (.ref b6), .val (.ref b36), .val (.ref b176), .val (.ref er_201), .val (.ref er_220), .val (.int (1 : Int32))] [(.int (1 : Int32))])) t ∧ _
    obtain ⟨fs, hr, hrun, hended, hW⟩ := Jvm.Stand.leaveW X278 hS (by rw [e278]; omega) (v := some (.int (1 : Int32))) (fun h => by rw [Bd.returns] at h; cases h)
    have CHz : CHr Z own_EL s.vm s.heap T278.vm T278.heap := by rw [hh, e278]; exact CHr.trans CH267 (CHv.at X278 hZ hEL CH267.1)
    refine ⟨_, _, ?_, hrun, hended, _, _, rfl, ?_, CHz, ⟨hW.1, hW.2.1, hW.2.2.1, hW.2.2.2.mono (by decide) (by decide)⟩⟩
    · exact retN X278 hx (t := .boolean) Bd.returns (by simp) (hb hby at_378) hr
    · show Q_rm0 Z _ _ _ _ h0 n0 _ T278.heap _
      rw [e278]
      exact ⟨rfl, N278, K266⟩
  · obtain ⟨hla2, hcd2, hls2, hnx2⟩ := H184_0.resolve_left (fun q => hla1 ((own_lata own_preL).mp q.1))
    have ne279 : b6 ≠ b36 := own_ne (by omega)
    have ne280 : b6 ≠ b176 := own_ne (by omega)
    have F281 := (Fld.keep (Fld.ext E176 (Fld.other W174 (Fld.other W170 (Fld.other W166 (Fld.other W162 (Fld.other W158 (Fld.other W154 (Fld.other W150 (Fld.other W146 (Fld.other W142 (Fld.other W138 (Fld.other W134 (Fld.other W130 (Fld.other W126 (Fld.other W122 (Fld.other W118 (Fld.other W114 (Fld.other W110 (Fld.other W106 (Fld.other W102 (Fld.other W98 (Fld.other W94 (Fld.other W90 (Fld.other W86 (Fld.other W82 (Fld.other W78 (Fld.other W74 (Fld.other W70 (Fld.other W66 (Fld.other W62 (Fld.other W58 (Fld.other W54 (Fld.other W50 (Fld.other W46 (Fld.other W40 (Fld.ext E36 G33_2) (Or.inl ne279)) (Or.inl ne279)) (Or.inl ne279)) (Or.inl ne279)) (Or.inl ne279)) (Or.inl ne279)) (Or.inl ne279)) (Or.inl ne279)) (Or.inl ne279)) (Or.inl ne279)) (Or.inl ne279)) (Or.inl ne279)) (Or.inl ne279)) (Or.inl ne279)) (Or.inl ne279)) (Or.inl ne279)) (Or.inl ne279)) (Or.inl ne279)) (Or.inl ne279)) (Or.inl ne279)) (Or.inl ne279)) (Or.inl ne279)) (Or.inl ne279)) (Or.inl ne279)) (Or.inl ne279)) (Or.inl ne279)) (Or.inl ne279)) (Or.inl ne279)) (Or.inl ne279)) (Or.inl ne279)) (Or.inl ne279)) (Or.inl ne279)) (Or.inl ne279)) (Or.inl ne279))) Kp184 (ninS ne280 nin0))
    have Fc282 : Fld Z T184.heap b6 "java/lang/String" "coder" "B" (.int (1 : Int32)) := by rw [← hcd1]; exact F281
    have ne283 : tb_33 ≠ b36 := own_ne (by omega)
    have ne284 : tb_33 ≠ b176 := own_ne (by omega)
    have F285 := (Arv.keep ((Arv.other (Arv.other (Arv.other (Arv.other (Arv.other (Arv.other (Arv.other (Arv.other (Arv.other (Arv.other (Arv.other (Arv.other (Arv.other (Arv.other (Arv.other (Arv.other (Arv.other (Arv.other (Arv.other (Arv.other (Arv.other (Arv.other (Arv.other (Arv.other (Arv.other (Arv.other (Arv.other (Arv.other (Arv.other (Arv.other (Arv.other (Arv.other (Arv.other (Arv.other (G33_3.ext E36) W40 ne283) W46 ne283) W50 ne283) W54 ne283) W58 ne283) W62 ne283) W66 ne283) W70 ne283) W74 ne283) W78 ne283) W82 ne283) W86 ne283) W90 ne283) W94 ne283) W98 ne283) W102 ne283) W106 ne283) W110 ne283) W114 ne283) W118 ne283) W122 ne283) W126 ne283) W130 ne283) W134 ne283) W138 ne283) W142 ne283) W146 ne283) W150 ne283) W154 ne283) W158 ne283) W162 ne283) W166 ne283) W170 ne283) W174 ne283).ext E176) Kp184 (ninS ne284 nin0))
    have en287 : nx_33 = (6 : Int32) := Int32.toInt_inj.mp (by rw [hnx1]; rfl)
    have Vx286 : Arv Z T184.heap tb_33 kb_33 .byte (6 : Int32) (own_u8 [y0, y1, y2]) (.int (0 : Int32)) := by have q := F285; rw [hls1, en287] at q; exact q
    have Fc288 : Fld Z T184.heap b176 "java/lang/String" "coder" "B" (.int (1 : Int32)) := by rw [← hcd2]; exact G184_2
    have en290 : nx_184 = (68 : Int32) := Int32.toInt_inj.mp (by rw [hnx2]; rfl)
    have Vx289 : Arv Z T184.heap tb_184 kb_184 .byte (68 : Int32) (own_u8 (own_pre ++ [y0, y1, y2])) (.int (0 : Int32)) := by have q := G184_3; rw [hls2, en290] at q; exact q
    show ∃ t o, Steps p.tables e below (T184.setTop (mkF m 249 #[.val (.int x1), .val (.int x2), .val (.int y0), .val (.int y1), .val (.int y2), .val (.ref b6), .val (.ref b36), .unset, .unset, .unset, .unset] [(.ref b176)])) t ∧ _
    refine own_go (fun _ => XS.astore X184.here hx rfl (hb hby at_249) rfl rfl (l' := #[.val (.int x1), .val (.int x2), .val (.int y0), .val (.int y1), .val (.int y2), .val (.ref b6), .val (.ref b36), .val (.ref b176), .unset, .unset, .unset]) rfl) ?_
    refine own_go (fun _ => XS.aload X184.here hx rfl (hb hby at_251) rfl rfl) ?_
    show ∃ t o, Steps p.tables e below (T184.setTop (mkF m 253 #[.val (.int x1), .val (.int x2), .val (.int y0), .val (.int y1), .val (.int y2), .val (.ref b6), .val (.ref b36), .val (.ref b176), .unset, .unset, .unset] [(.ref b6)])) t ∧ _
    have F291 := (Exa.keep (Exa.ext E176 (Exa.wr W174 (Exa.wr W170 (Exa.wr W166 (Exa.wr W162 (Exa.wr W158 (Exa.wr W154 (Exa.wr W150 (Exa.wr W146 (Exa.wr W142 (Exa.wr W138 (Exa.wr W134 (Exa.wr W130 (Exa.wr W126 (Exa.wr W122 (Exa.wr W118 (Exa.wr W114 (Exa.wr W110 (Exa.wr W106 (Exa.wr W102 (Exa.wr W98 (Exa.wr W94 (Exa.wr W90 (Exa.wr W86 (Exa.wr W82 (Exa.wr W78 (Exa.wr W74 (Exa.wr W70 (Exa.wr W66 (Exa.wr W62 (Exa.wr W58 (Exa.wr W54 (Exa.wr W50 (Exa.wr W46 (Exa.wr W40 (Exa.ext E36 G33_0)))))))))))))))))))))))))))))))))))) Kp184)
    have F292 := (Fld.keep (Fld.ext E176 (Fld.other W174 (Fld.other W170 (Fld.other W166 (Fld.other W162 (Fld.other W158 (Fld.other W154 (Fld.other W150 (Fld.other W146 (Fld.other W142 (Fld.other W138 (Fld.other W134 (Fld.other W130 (Fld.other W126 (Fld.other W122 (Fld.other W118 (Fld.other W114 (Fld.other W110 (Fld.other W106 (Fld.other W102 (Fld.other W98 (Fld.other W94 (Fld.other W90 (Fld.other W86 (Fld.other W82 (Fld.other W78 (Fld.other W74 (Fld.other W70 (Fld.other W66 (Fld.other W62 (Fld.other W58 (Fld.other W54 (Fld.other W50 (Fld.other W46 (Fld.other W40 (Fld.ext E36 G33_1) (Or.inl ne279)) (Or.inl ne279)) (Or.inl ne279)) (Or.inl ne279)) (Or.inl ne279)) (Or.inl ne279)) (Or.inl ne279)) (Or.inl ne279)) (Or.inl ne279)) (Or.inl ne279)) (Or.inl ne279)) (Or.inl ne279)) (Or.inl ne279)) (Or.inl ne279)) (Or.inl ne279)) (Or.inl ne279)) (Or.inl ne279)) (Or.inl ne279)) (Or.inl ne279)) (Or.inl ne279)) (Or.inl ne279)) (Or.inl ne279)) (Or.inl ne279)) (Or.inl ne279)) (Or.inl ne279)) (Or.inl ne279)) (Or.inl ne279)) (Or.inl ne279)) (Or.inl ne279)) (Or.inl ne279)) (Or.inl ne279)) (Or.inl ne279)) (Or.inl ne279)) (Or.inl ne279))) Kp184 (ninS ne280 nin0))
    have F293 := (Old.keep F179 Kp184 (allS ge180 all0))
    have zl294 : n0 ≤ T184.heap.size := by omega
    obtain ⟨_, _, ⟨T295, L295, k295, n295⟩, -, X295, hSn295, hgn295, ⟨Lc295, hQ295, l295, y295, z295, cr295⟩, st295⟩ := callSS X184 hx (y := (⟨"com/example/earnest_roster/earnestroster/ApiError", "noImportWithId", "(Ljava/lang/String;)Lcom/example/earnest_roster/earnestroster/ApiError;"⟩ : MethodName)) hown (mvT hZ w_30) (mvT hZ w_31) (mvT hZ w_32) (mvT hZ w_33) (by decide) (backOfSH (W := 0) (rmNiU l Z a0 hw [] b6 tb_33 kb_33 (own_u8 [y0, y1, y2]) zc gv T184.heap n0 zl294 F291 F292 Fc282 Vx286 F293 P1 P2 P3 P4 P5 hzc hgv (rfl : own_fit (own_u8 [y0, y1, y2]) (6 : Int32)) hEL) hZ w_33 w_32 (by decide) (by decide) hEL CH186.1) (g := (mkF m 253 #[.val (.int x1), .val (.int x2), .val (.int y0), .val (.int y1), .val (.int y2), .val (.ref b6), .val (.ref b36), .val (.ref b176), .unset, .unset, .unset] [(.ref b6)])) rfl (by rw [hml]; rfl) (argsL := [(.ref b6)]) (rest := []) (lenOf pd_h3cd7e6a5 rfl) rfl (by show 2 * 0 + _ ≤ _; exact Nat.le_of_eq rfl) (hb hby at_253) (fun _ _ => ⟨rfl, rfl, (by decide : 8 + 11 ≤ _), (by decide : 249 + 472 ≤ _)⟩)
    dsimp only [Pt.U, Pt.locs, Pt.cells, Pt.slots] at X295 l295 y295 z295 st295 hQ295 hSn295 hgn295 cr295
    rw [l295, y295, z295] at X295
    have hZ : Z.Warmed39 (s.setVm T295.vm).vm := State.Warmed39.trans (t := s.setVm s.vm) hZ hSn295.1
    have hown : (s.setVm T295.vm).vm.findClass "com/example/earnest_roster/earnestroster/ApiErrorNoImportWithIdPinLaw" = some m.cls := by rw [show (s.setVm T295.vm).vm = T295.vm from rfl, hSn295.1.alike.findClass]; exact hown
    have hS : s.Since T295.vm T295.heap.size := foldS (T := T184) hS (Nat.zero_le _) hSn295 hgn295
    have X295 : Stand p l e _ (s.setVm T295.vm) m _ below meth c T295 _ _ _ := X295
    obtain ⟨er_295, ac_295, ta_295, ka_295, bm_295, tm_295, km_295, nm_295, rfl, Nq295, Kp295, G295_0, G295_1, G295_2, G295_3, G295_4, G295_5, G295_6, G295_7, G295_8, G295_9, G295_10, H295_0⟩ := hQ295
    have N295 := Fr.app N184 Nq295
    refine own_goT st295 ?_
    have le_295 : T184.heap.size ≤ T295.heap.size := Kp295.1
    have K295 : Keep h0 T295.heap [] := Keep.trans K184 Kp295 all0
    have CH296 := CHr.trans CH186 cr295
    have lt_er_295 : er_295 < T295.heap.size := (G295_0).lt
    have lt_ac_295 : ac_295 < T295.heap.size := (G295_3).lt
    have lt_ta_295 : ta_295 < T295.heap.size := (G295_6).lt
    have lt_bm_295 : bm_295 < T295.heap.size := (G295_7).lt
    have lt_tm_295 : tm_295 < T295.heap.size := (G295_10).lt
    refine own_go (fun _ => XS.astore X295.here hx rfl (hb hby at_256) rfl rfl (l' := #[.val (.int x1), .val (.int x2), .val (.int y0), .val (.int y1), .val (.int y2), .val (.ref b6), .val (.ref b36), .val (.ref b176), .val (.ref er_295), .unset, .unset]) rfl) ?_
    show ∃ t o, Steps p.tables e below (T295.setTop (mkF m 258 #[.val (.int x1), .val (.int x2), .val (.int y0), .val (.int y1), .val (.int y2), .val (.ref b6), .val (.ref b36), .val (.ref b176), .val (.ref er_295), .unset, .unset] [])) t ∧ _
    obtain ⟨T297, h297, X297, e297, E297, A297, D297, -, st297⟩ := newO X295 hx hZ hown w_0 w_1 w_2 rfl (g := (mkF m 258 #[.val (.int x1), .val (.int x2), .val (.int y0), .val (.int y1), .val (.int y2), .val (.ref b6), .val (.ref b36), .val (.ref b176), .val (.ref er_295), .unset, .unset] [])) rfl (hb hby at_258) (by decide) (by decide)
    obtain ⟨b297, g297⟩ : ∃ z, z = T295.heap.size := ⟨_, rfl⟩
    rw [← g297] at A297 D297 st297
    refine own_go st297 ?_
    have le_297 : T295.heap.size ≤ h297.size := E297.1
    have lt_b297 : b297 < h297.size := A297.lt
    have F_coder_b297 : Fld Z h297 b297 "java/lang/String" "coder" "B" (.int (0 : Int32)) := D297 (Or.inr w_27) (ty := .byte) (by decide)
    have F_value_b297 : Fld Z h297 b297 "java/lang/String" "value" "[B" .null := D297 (Or.inr w_29) (ty := (.array .byte)) (by decide)
    have K297 : Keep h0 h297 [] := Keep.ext K295 E297
    have CH298 := CHr.trans CH296 (CHr.ext E297 CH296.1)
    refine own_go (fun _ => XS.dup X297.here hx rfl (hb hby at_261) rfl rfl) ?_
    refine own_go (fun _ => XS.iconst X297.here hx rfl (hb hby at_262)) ?_
    show ∃ t o, Steps p.tables e below (T297.setTop (mkF m 263 #[.val (.int x1), .val (.int x2), .val (.int y0), .val (.int y1), .val (.int y2), .val (.ref b6), .val (.ref b36), .val (.ref b176), .val (.ref er_295), .unset, .unset] [(.int (0 : Int32)), (.ref b297), (.ref b297)])) t ∧ _
    obtain ⟨T299, h299, k299, X299, e299, E299, A299, st299⟩ := newP (aty := .char) X297 hx hZ w_3 e297 (g := (mkF m 263 #[.val (.int x1), .val (.int x2), .val (.int y0), .val (.int y1), .val (.int y2), .val (.ref b6), .val (.ref b36), .val (.ref b176), .val (.ref er_295), .unset, .unset] [(.int (0 : Int32)), (.ref b297), (.ref b297)])) rfl (hb hby at_263) rfl (by decide) (cap := 0) (by decide) (by decide) (by decide) (by decide)
    obtain ⟨b299, g299⟩ : ∃ z, z = h297.size := ⟨_, rfl⟩
    rw [← g299] at A299 st299
    refine own_go st299 ?_
    have le_299 : h297.size ≤ h299.size := E299.1
    have lt_b299 : b299 < h299.size := A299.lt
    have V_b299 : Arv Z h299 b299 k299 .char (0 : Int32) [] (.int (0 : Int32)) := (Arv.new A299 (by decide)).pad (pad_rep [] (.int (0 : Int32)) 0)
    have K299 : Keep h0 h299 [] := Keep.ext K297 E299
    have CH300 := CHr.trans CH298 (CHr.ext E299 CH298.1)
    show ∃ t o, Steps p.tables e below (T299.setTop (mkF m 265 #[.val (.int x1), .val (.int x2), .val (.int y0), .val (.int y1), .val (.int y2), .val (.ref b6), .val (.ref b36), .val (.ref b176), .val (.ref er_295), .unset, .unset] [(.ref b299), (.ref b297), (.ref b297)])) t ∧ _
    have F301 := (Exa.ext E299 A297)
    have F302 := (Fld.ext E299 F_value_b297)
    have F303 := (Fld.ext E299 F_coder_b297)
    have F304 := (((Old.keep F293 Kp295 all0).ext E297).ext E299)
    have ge305 : n0 ≤ b297 := by omega
    have zl306 : n0 ≤ h299.size := by omega
    obtain ⟨_, _, ⟨T307, L307, k307, n307⟩, -, X307, hSn307, hgn307, ⟨Lc307, hQ307, l307, y307, z307, cr307⟩, st307⟩ := X299.specialBackS hx (y := (⟨"java/lang/String", "<init>", "([C)V"⟩ : MethodName)) rfl hown (mvT hZ w_4) (mvT hZ w_5) (mvT hZ w_6) (by decide) (backOfSH (W := 1) (rmS1 l Z a0 hw [] b297 b299 k299 h299 n0 zl306 F301 F302 F303 V_b299 F304 ge305 hEL) hZ w_6 w_2 (by decide) (by decide) hEL CH300.1) (g := (mkF m 265 #[.val (.int x1), .val (.int x2), .val (.int y0), .val (.int y1), .val (.int y2), .val (.ref b6), .val (.ref b36), .val (.ref b176), .val (.ref er_295), .unset, .unset] [(.ref b299), (.ref b297), (.ref b297)])) rfl (by rw [hml]; rfl) (Steps.refl _) (a := b297) (argsL := [(.ref b299)]) (rest := [(.ref b297)]) (lenOf pd__28_5bC_29V rfl) rfl (by show 2 * 0 + _ ≤ _; exact Nat.le_of_eq rfl) (hb hby at_265) (fun _ _ => ⟨rfl, e299, (by decide : 21 + 4 ≤ _), (by decide : 725 + 8 ≤ _)⟩)
    dsimp only [Pt.U, Pt.locs, Pt.cells, Pt.slots] at X307 l307 y307 z307 st307 hQ307 hSn307 hgn307 cr307
    rw [l307, y307, z307] at X307
    have hZ : Z.Warmed39 (s.setVm T307.vm).vm := State.Warmed39.trans (t := s.setVm T295.vm) hZ hSn307.1
    have hown : (s.setVm T307.vm).vm.findClass "com/example/earnest_roster/earnestroster/ApiErrorNoImportWithIdPinLaw" = some m.cls := by rw [show (s.setVm T307.vm).vm = T307.vm from rfl, hSn307.1.alike.findClass]; exact hown
    have hS : s.Since T307.vm T307.heap.size := foldS (T := T299) hS (by rw [e299]; omega) hSn307 hgn307
    have X307 : Stand p l e _ (s.setVm T307.vm) m _ below meth c T307 _ _ _ := X307
    obtain ⟨tb_307, kb_307, rfl, Nq307, Kp307, G307_0, G307_1, G307_2, G307_3⟩ := hQ307
    have N307 := Fr.app N295 Nq307
    refine own_goT st307 ?_
    have le_307 : h299.size ≤ T307.heap.size := Kp307.1
    have sz308 : h0.size ≤ b297 := by omega
    have K307 : Keep h0 T307.heap [] := Keep.trans K299 Kp307 (allS (Or.inr sz308) all0)
    have CH309 := CHr.trans CH300 cr307
    have lt_tb_307 : tb_307 < T307.heap.size := (G307_3).lt
    have F310 := (Exa.keep (Exa.ext E299 (Exa.ext E297 G295_0)) Kp307)
    have ne311 : tb_307 ≠ er_295 := Ne.symm (Exa.neArv F310 G307_3 w_35)
    show ∃ t o, Steps p.tables e below (T307.setTop (mkF m 268 #[.val (.int x1), .val (.int x2), .val (.int y0), .val (.int y1), .val (.int y2), .val (.ref b6), .val (.ref b36), .val (.ref b176), .val (.ref er_295), .unset, .unset] [(.ref b297)])) t ∧ _
    have F312 := (Old.keep F304 Kp307 (allS ge305 all0))
    have zl313 : n0 ≤ T307.heap.size := by omega
    obtain ⟨_, _, ⟨T314, L314, k314, n314⟩, -, X314, hSn314, hgn314, ⟨Lc314, hQ314, l314, y314, z314, cr314⟩, st314⟩ := callSS X307 hx (y := (⟨"com/example/earnest_roster/earnestroster/ApiError", "noImportWithId", "(Ljava/lang/String;)Lcom/example/earnest_roster/earnestroster/ApiError;"⟩ : MethodName)) hown (mvT hZ w_30) (mvT hZ w_31) (mvT hZ w_32) (mvT hZ w_33) (by decide) (backOfSH (W := 0) (rmNiL l Z a0 hw [] b297 tb_307 kb_307 (0 : Int32) ([]) zc T307.heap n0 zl313 G307_0 G307_1 G307_2 G307_3 F312 P1 hzc (rfl : own_fit [] (0 : Int32)) ((Nat.le_of_ble_eq_true rfl) : [].length ≤ 3) hEL) hZ w_33 w_32 (by decide) (by decide) hEL CH309.1) (g := (mkF m 268 #[.val (.int x1), .val (.int x2), .val (.int y0), .val (.int y1), .val (.int y2), .val (.ref b6), .val (.ref b36), .val (.ref b176), .val (.ref er_295), .unset, .unset] [(.ref b297)])) rfl (by rw [hml]; rfl) (argsL := [(.ref b297)]) (rest := []) (lenOf pd_h3cd7e6a5 rfl) rfl (by show 2 * 0 + _ ≤ _; exact Nat.le_of_eq rfl) (hb hby at_268) (fun _ _ => ⟨rfl, rfl, (by decide : 25 + 11 ≤ _), (by decide : 733 + 620 ≤ _)⟩)
    dsimp only [Pt.U, Pt.locs, Pt.cells, Pt.slots] at X314 l314 y314 z314 st314 hQ314 hSn314 hgn314 cr314
    rw [l314, y314, z314] at X314
    have hZ : Z.Warmed39 (s.setVm T314.vm).vm := State.Warmed39.trans (t := s.setVm T307.vm) hZ hSn314.1
    have hown : (s.setVm T314.vm).vm.findClass "com/example/earnest_roster/earnestroster/ApiErrorNoImportWithIdPinLaw" = some m.cls := by rw [show (s.setVm T314.vm).vm = T314.vm from rfl, hSn314.1.alike.findClass]; exact hown
    have hS : s.Since T314.vm T314.heap.size := foldS (T := T307) hS (by omega) hSn314 hgn314
    have X314 : Stand p l e _ (s.setVm T314.vm) m _ below meth c T314 _ _ _ := X314
    obtain ⟨er_314, ac_314, ta_314, ka_314, bm_314, tm_314, km_314, nm_314, rfl, Nq314, Kp314, G314_0, G314_1, G314_2, G314_3, G314_4, G314_5, G314_6, G314_7, G314_8, G314_9, G314_10, H314_0⟩ := hQ314
    have N314 := Fr.app N307 Nq314
    refine own_goT st314 ?_
    have le_314 : T307.heap.size ≤ T314.heap.size := Kp314.1
    have K314 : Keep h0 T314.heap [] := Keep.trans K307 Kp314 all0
    have CH315 := CHr.trans CH309 cr314
    have lt_er_314 : er_314 < T314.heap.size := (G314_0).lt
    have lt_ac_314 : ac_314 < T314.heap.size := (G314_3).lt
    have lt_ta_314 : ta_314 < T314.heap.size := (G314_6).lt
    have lt_bm_314 : bm_314 < T314.heap.size := (G314_7).lt
    have lt_tm_314 : tm_314 < T314.heap.size := (G314_10).lt
    refine own_go (fun _ => XS.astore X314.here hx rfl (hb hby at_271) rfl rfl (l' := #[.val (.int x1), .val (.int x2), .val (.int y0), .val (.int y1), .val (.int y2), .val (.ref b6), .val (.ref b36), .val (.ref b176), .val (.ref er_295), .val (.ref er_314), .unset]) rfl) ?_
    refine own_go (fun _ => XS.iconst X314.here hx rfl (hb hby at_273)) ?_
    refine own_go (fun _ => XS.istore X314.here hx rfl (hb hby at_274) rfl (l' := #[.val (.int x1), .val (.int x2), .val (.int y0), .val (.int y1), .val (.int y2), .val (.ref b6), .val (.ref b36), .val (.ref b176), .val (.ref er_295), .val (.ref er_314), .val (.int (1 : Int32))]) rfl) ?_
    refine own_go (fun _ => XS.iload X314.here hx rfl (hb hby at_276) rfl) ?_
    show ∃ t o, Steps p.tables e below (T314.setTop (mkF m 278 #[.val (.int x1), .val (.int x2), .val (.int y0), .val (.int y1), .val (.int y2), .val (.ref b6), .val (.ref b36), .val (.ref b176), .val (.ref er_295), .val (.ref er_314), .val (.int (1 : Int32))] [(.int (1 : Int32))])) t ∧ _
    refine own_go (fun _ => XS.ifNo X314.here hx rfl (hb hby at_278) rfl ((if0 _ _).trans (feq (by decide : ¬ ((1 : Int32) = (0 : Int32)))).1)) ?_
    obtain ⟨a316, T316, h316, kS316, b316, kb316, X316, e316, E316, hS, hk316, hZ, hown, A316, Fc316, Fv316, Av316, lta316, ltb316, cr316, -, hne316, st316⟩ := ldcCH X314 hx hZ hown w_185 wS rfl hS (by omega) hEL own_mem3 CH315.1 (vs := [(.int (110 : Int32)), (.int (111 : Int32)), (.int (116 : Int32)), (.int (95 : Int32)), (.int (102 : Int32)), (.int (111 : Int32)), (.int (117 : Int32)), (.int (110 : Int32)), (.int (100 : Int32))]) (z := 9) own_ct_6e_6f_74_5f_66_6f_75_6e_64 (by decide) rfl (g := (mkF m 281 #[.val (.int x1), .val (.int x2), .val (.int y0), .val (.int y1), .val (.int y2), .val (.ref b6), .val (.ref b36), .val (.ref b176), .val (.ref er_295), .val (.ref er_314), .val (.int (1 : Int32))] [])) rfl (hb hby at_281) (n := 36) (by decide) (by decide) (by decide) (by decide)
    refine own_go st316 ?_
    have K316 : Keep h0 h316 [] := Keep.ext K314 E316
    have le_316 : T314.heap.size ≤ h316.size := E316.1
    have CH317 := CHr.trans CH315 cr316
    have lt_a316 := own_ltn lta316
    have lt_b316 := own_ltn ltb316
    have Pk318 : Arv Z h316 b316 kb316 .byte (9 : Int32) own_nf (.int (0 : Int32)) := Av316
    refine own_go (fun _ => XS.aload X316.here hx rfl (hb hby at_283) rfl rfl) ?_
    show ∃ t o, Steps p.tables e below (T316.setTop (mkF m 285 #[.val (.int x1), .val (.int x2), .val (.int y0), .val (.int y1), .val (.int y2), .val (.ref b6), .val (.ref b36), .val (.ref b176), .val (.ref er_295), .val (.ref er_314), .val (.int (1 : Int32))] [(.ref er_295), (.ref a316)])) t ∧ _
    have F319 := (Exa.ext E316 (Exa.keep F310 Kp314))
    have ne320 : er_295 ≠ b297 := own_ne (by omega)
    have F321 := (Fld.ext E316 (Fld.keep (Fld.keep (Fld.ext E299 (Fld.ext E297 G295_1)) Kp307 (ninS ne320 nin0)) Kp314 nin0))
    have F322 := ((Old.keep F312 Kp314 all0).ext E316)
    have zl323 : n0 ≤ h316.size := by omega
    obtain ⟨cq324, kq324, q324a, q324b, q324c⟩ := isOf hZ e316 F319
    obtain ⟨_, _, ⟨T324, L324, k324, n324⟩, -, X324, ⟨Lc324, hQ324, l324, y324, z324⟩, st324⟩ := X316.virtualBack hx (y := (⟨"com/example/earnest_roster/earnestroster/ApiError", "getCode", "()Ljava/lang/String;"⟩ : MethodName)) (z := (⟨"com/example/earnest_roster/earnestroster/ApiError", "getCode", "()Ljava/lang/String;"⟩ : MethodName)) hown (mvT hZ w_186) (mvT hZ w_187) (notFace_of_selects (args := #[]) (mvT hZ w_189)) (mvT hZ w_189) (mvT hZ w_188) (by decide) (backOf (W := 1) (rmGcd l Z a0 hw [] er_295 ac_295 h316 n0 zl323 F321 F322) hZ w_190 w_32 (by decide) (by decide)) q324a q324c (g := (mkF m 285 #[.val (.int x1), .val (.int x2), .val (.int y0), .val (.int y1), .val (.int y2), .val (.ref b6), .val (.ref b36), .val (.ref b176), .val (.ref er_295), .val (.ref er_314), .val (.int (1 : Int32))] [(.ref er_295), (.ref a316)])) rfl (by rw [hml]; rfl) (Steps.refl _) (argsL := []) (rest := [(.ref a316)]) (lenOf pd__28_29Ljava_2flang_2fString_3b rfl) rfl (by show 2 * 0 + _ ≤ _; exact Nat.le_of_eq rfl) (hb hby at_285) (fun _ _ => ⟨rfl, e316, (by decide : 38 + 0 ≤ _), (by decide : 1393 + 0 ≤ _)⟩)
    dsimp only [Pt.U, Pt.locs, Pt.cells, Pt.slots] at X324 l324 y324 z324 st324 hQ324
    rw [l324, y324, z324] at X324
    obtain ⟨rfl, Nq324, e324⟩ := hQ324
    have N324 := Fr.app N314 Nq324
    refine own_goT st324 ?_
    show ∃ t o, Steps p.tables e below (T324.setTop (mkF m 288 #[.val (.int x1), .val (.int x2), .val (.int y0), .val (.int y1), .val (.int y2), .val (.ref b6), .val (.ref b36), .val (.ref b176), .val (.ref er_295), .val (.ref er_314), .val (.int (1 : Int32))] [(.ref ac_295), (.ref a316)])) t ∧ _
    have F325 := (Exa.ext E316 (Exa.keep (Exa.keep (Exa.ext E299 (Exa.ext E297 G295_3)) Kp307) Kp314))
    have ne326 : ac_295 ≠ b297 := own_ne (by omega)
    have F327 := (Fld.ext E316 (Fld.keep (Fld.keep (Fld.ext E299 (Fld.ext E297 G295_4)) Kp307 (ninS ne326 nin0)) Kp314 nin0))
    have F328 := (Fld.ext E316 (Fld.keep (Fld.keep (Fld.ext E299 (Fld.ext E297 G295_5)) Kp307 (ninS ne326 nin0)) Kp314 nin0))
    have ne329 : ta_295 ≠ b297 := own_ne (by omega)
    have F330 := ((Arv.keep (Arv.keep ((G295_6.ext E297).ext E299) Kp307 (ninS ne329 nin0)) Kp314 nin0).ext E316)
    obtain ⟨cq331, kq331, q331a, q331b, q331c⟩ := isOf hZ e324 A316
    obtain ⟨_, _, ⟨T331, L331, k331, n331⟩, -, X331, ⟨Lc331, hQ331, l331, y331, z331⟩, st331⟩ := X324.virtualBack hx (y := (⟨"java/lang/String", "equals", "(Ljava/lang/Object;)Z"⟩ : MethodName)) (z := (⟨"java/lang/String", "equals", "(Ljava/lang/Object;)Z"⟩ : MethodName)) hown (mvT hZ w_191) (mvT hZ w_192) (notFace_of_selects (args := #[]) (mvT hZ w_194)) (mvT hZ w_194) (mvT hZ w_193) (by decide) (backOf (W := 0) (rmEqT l Z a0 hw [] a316 ac_295 b316 kb316 (9 : Int32) own_nf ta_295 ka_295 (9 : Int32) own_nf (0 : Int32) zc h316 n0 zl323 A316 Fv316 Fc316 Pk318 F325 F327 F328 F330 F322 P1 hzc (rfl : own_fit own_nf (9 : Int32)) (rfl : own_fit own_nf (9 : Int32)) (rfl : own_nf = own_nf)) hZ w_195 w_2 (by decide) (by decide)) q331a q331c (g := (mkF m 288 #[.val (.int x1), .val (.int x2), .val (.int y0), .val (.int y1), .val (.int y2), .val (.ref b6), .val (.ref b36), .val (.ref b176), .val (.ref er_295), .val (.ref er_314), .val (.int (1 : Int32))] [(.ref ac_295), (.ref a316)])) rfl (by rw [hml]; rfl) (Steps.refl _) (argsL := [(.ref ac_295)]) (rest := []) (lenOf pd__28Ljava_2flang_2fObject_3b_29Z rfl) rfl (by show 2 * 0 + _ ≤ _; exact Nat.le_of_eq rfl) (hb hby at_288) (fun _ _ => ⟨rfl, e324, (by decide : 38 + 0 ≤ _), (by decide : 1393 + 0 ≤ _)⟩)
    dsimp only [Pt.U, Pt.locs, Pt.cells, Pt.slots] at X331 l331 y331 z331 st331 hQ331
    rw [l331, y331, z331] at X331
    obtain ⟨rfl, Nq331, e331⟩ := hQ331
    have N331 := Fr.app N324 Nq331
    refine own_goT st331 ?_
    show ∃ t o, Steps p.tables e below (T331.setTop (mkF m 291 #[.val (.int x1), .val (.int x2), .val (.int y0), .val (.int y1), .val (.int y2), .val (.ref b6), .val (.ref b36), .val (.ref b176), .val (.ref er_295), .val (.ref er_314), .val (.int (1 : Int32))] [(.int (1 : Int32))])) t ∧ _
    refine own_go (fun _ => XS.ifNo X331.here hx rfl (hb hby at_291) rfl ((if0 _ _).trans (feq (by decide : ¬ ((1 : Int32) = (0 : Int32)))).1)) ?_
    refine own_go (fun _ => XS.iconst X331.here hx rfl (hb hby at_294)) ?_
    refine own_go (fun _ => XS.goto X331.here hx rfl (pc0 := 295) (pc' := 299) rfl (hb hby at_295) (by decide) (by decide)) ?_
    refine own_go (fun _ => XS.istore X331.here hx rfl (hb hby at_299) rfl (l' := #[.val (.int x1), .val (.int x2), .val (.int y0), .val (.int y1), .val (.int y2), .val (.ref b6), .val (.ref b36), .val (.ref b176), .val (.ref er_295), .val (.ref er_314), .val (.int (1 : Int32))]) rfl) ?_
    refine own_go (fun _ => XS.iload X331.here hx rfl (hb hby at_301) rfl) ?_
    show ∃ t o, Steps p.tables e below (T331.setTop (mkF m 303 #[.val (.int x1), .val (.int x2), .val (.int y0), .val (.int y1), .val (.int y2), .val (.ref b6), .val (.ref b36), .val (.ref b176), .val (.ref er_295), .val (.ref er_314), .val (.int (1 : Int32))] [(.int (1 : Int32))])) t ∧ _
    refine own_go (fun _ => XS.ifNo X331.here hx rfl (hb hby at_303) rfl ((if0 _ _).trans (feq (by decide : ¬ ((1 : Int32) = (0 : Int32)))).1)) ?_
    refine own_go (fun _ => XS.aload X331.here hx rfl (hb hby at_306) rfl rfl) ?_
    refine own_go (fun _ => XS.aload X331.here hx rfl (hb hby at_308) rfl rfl) ?_
    show ∃ t o, Steps p.tables e below (T331.setTop (mkF m 310 #[.val (.int x1), .val (.int x2), .val (.int y0), .val (.int y1), .val (.int y2), .val (.ref b6), .val (.ref b36), .val (.ref b176), .val (.ref er_295), .val (.ref er_314), .val (.int (1 : Int32))] [(.ref er_295), (.ref b176)])) t ∧ _
    have F332 := (Fld.ext E316 (Fld.keep (Fld.keep (Fld.ext E299 (Fld.ext E297 G295_2)) Kp307 (ninS ne320 nin0)) Kp314 nin0))
    obtain ⟨cq333, kq333, q333a, q333b, q333c⟩ := isOf hZ e331 F319
    obtain ⟨_, _, ⟨T333, L333, k333, n333⟩, -, X333, ⟨Lc333, hQ333, l333, y333, z333⟩, st333⟩ := X331.virtualBack hx (y := (⟨"com/example/earnest_roster/earnestroster/ApiError", "getMessage", "()Ljava/lang/String;"⟩ : MethodName)) (z := (⟨"com/example/earnest_roster/earnestroster/ApiError", "getMessage", "()Ljava/lang/String;"⟩ : MethodName)) hown (mvT hZ w_196) (mvT hZ w_197) (notFace_of_selects (args := #[]) (mvT hZ w_199)) (mvT hZ w_199) (mvT hZ w_198) (by decide) (backOf (W := 1) (rmGms l Z a0 hw [] er_295 bm_295 h316 n0 zl323 F332 F322) hZ w_200 w_32 (by decide) (by decide)) q333a q333c (g := (mkF m 310 #[.val (.int x1), .val (.int x2), .val (.int y0), .val (.int y1), .val (.int y2), .val (.ref b6), .val (.ref b36), .val (.ref b176), .val (.ref er_295), .val (.ref er_314), .val (.int (1 : Int32))] [(.ref er_295), (.ref b176)])) rfl (by rw [hml]; rfl) (Steps.refl _) (argsL := []) (rest := [(.ref b176)]) (lenOf pd__28_29Ljava_2flang_2fString_3b rfl) rfl (by show 2 * 0 + _ ≤ _; exact Nat.le_of_eq rfl) (hb hby at_310) (fun _ _ => ⟨rfl, e331, (by decide : 38 + 0 ≤ _), (by decide : 1393 + 0 ≤ _)⟩)
    dsimp only [Pt.U, Pt.locs, Pt.cells, Pt.slots] at X333 l333 y333 z333 st333 hQ333
    rw [l333, y333, z333] at X333
    obtain ⟨rfl, Nq333, e333⟩ := hQ333
    have N333 := Fr.app N331 Nq333
    refine own_goT st333 ?_
    show ∃ t o, Steps p.tables e below (T333.setTop (mkF m 313 #[.val (.int x1), .val (.int x2), .val (.int y0), .val (.int y1), .val (.int y2), .val (.ref b6), .val (.ref b36), .val (.ref b176), .val (.ref er_295), .val (.ref er_314), .val (.int (1 : Int32))] [(.ref bm_295), (.ref b176)])) t ∧ _
    have F334 := (Exa.ext E316 (Exa.keep (Exa.keep (Exa.ext E299 (Exa.ext E297 (Exa.keep G184_0 Kp295))) Kp307) Kp314))
    have ne335 : b176 ≠ b297 := own_ne (by omega)
    have F336 := (Fld.ext E316 (Fld.keep (Fld.keep (Fld.ext E299 (Fld.ext E297 (Fld.keep G184_1 Kp295 nin0))) Kp307 (ninS ne335 nin0)) Kp314 nin0))
    have F337 := (Fld.ext E316 (Fld.keep (Fld.keep (Fld.ext E299 (Fld.ext E297 (Fld.keep Fc288 Kp295 nin0))) Kp307 (ninS ne335 nin0)) Kp314 nin0))
    have ne338 : tb_184 ≠ b297 := own_ne (by omega)
    have F339 := ((Arv.keep (Arv.keep (((Arv.keep Vx289 Kp295 nin0).ext E297).ext E299) Kp307 (ninS ne338 nin0)) Kp314 nin0).ext E316)
    have F340 := (Exa.ext E316 (Exa.keep (Exa.keep (Exa.ext E299 (Exa.ext E297 G295_7)) Kp307) Kp314))
    have ne341 : bm_295 ≠ b297 := own_ne (by omega)
    have F342 := (Fld.ext E316 (Fld.keep (Fld.keep (Fld.ext E299 (Fld.ext E297 G295_8)) Kp307 (ninS ne341 nin0)) Kp314 nin0))
    have F343 := (Fld.ext E316 (Fld.keep (Fld.keep (Fld.ext E299 (Fld.ext E297 G295_9)) Kp307 (ninS ne341 nin0)) Kp314 nin0))
    have ne344 : tm_295 ≠ b297 := own_ne (by omega)
    have F345 := ((Arv.keep (Arv.keep ((G295_10.ext E297).ext E299) Kp307 (ninS ne344 nin0)) Kp314 nin0).ext E316)
    obtain ⟨cq346, kq346, q346a, q346b, q346c⟩ := isOf hZ e333 F334
    obtain ⟨_, _, ⟨T346, L346, k346, n346⟩, -, X346, ⟨Lc346, hQ346, l346, y346, z346⟩, st346⟩ := X333.virtualBack hx (y := (⟨"java/lang/String", "equals", "(Ljava/lang/Object;)Z"⟩ : MethodName)) (z := (⟨"java/lang/String", "equals", "(Ljava/lang/Object;)Z"⟩ : MethodName)) hown (mvT hZ w_191) (mvT hZ w_192) (notFace_of_selects (args := #[]) (mvT hZ w_194)) (mvT hZ w_194) (mvT hZ w_193) (by decide) (backOf (W := 0) (rmEqT l Z a0 hw [] b176 bm_295 tb_184 kb_184 (68 : Int32) ((own_u8 (own_pre ++ [y0, y1, y2]))) tm_295 km_295 nm_295 (((own_u8 own_pre) ++ (own_u8 [y0, y1, y2]))) (1 : Int32) zc h316 n0 zl323 F334 F336 F337 F339 F340 F342 F343 F345 F322 P1 hzc (rfl : own_fit (own_u8 (own_pre ++ [y0, y1, y2])) (68 : Int32)) ((by rw [H295_0]; rfl) : own_fit ((own_u8 own_pre) ++ (own_u8 [y0, y1, y2])) nm_295) ((by rw [own_u8a]) : (own_u8 (own_pre ++ [y0, y1, y2])) = ((own_u8 own_pre) ++ (own_u8 [y0, y1, y2])))) hZ w_195 w_2 (by decide) (by decide)) q346a q346c (g := (mkF m 313 #[.val (.int x1), .val (.int x2), .val (.int y0), .val (.int y1), .val (.int y2), .val (.ref b6), .val (.ref b36), .val (.ref b176), .val (.ref er_295), .val (.ref er_314), .val (.int (1 : Int32))] [(.ref bm_295), (.ref b176)])) rfl (by rw [hml]; rfl) (Steps.refl _) (argsL := [(.ref bm_295)]) (rest := []) (lenOf pd__28Ljava_2flang_2fObject_3b_29Z rfl) rfl (by show 2 * 0 + _ ≤ _; exact Nat.le_of_eq rfl) (hb hby at_313) (fun _ _ => ⟨rfl, e333, (by decide : 38 + 0 ≤ _), (by decide : 1393 + 0 ≤ _)⟩)
    dsimp only [Pt.U, Pt.locs, Pt.cells, Pt.slots] at X346 l346 y346 z346 st346 hQ346
    rw [l346, y346, z346] at X346
    obtain ⟨rfl, Nq346, e346⟩ := hQ346
    have N346 := Fr.app N333 Nq346
    refine own_goT st346 ?_
    show ∃ t o, Steps p.tables e below (T346.setTop (mkF m 316 #[.val (.int x1), .val (.int x2), .val (.int y0), .val (.int y1), .val (.int y2), .val (.ref b6), .val (.ref b36), .val (.ref b176), .val (.ref er_295), .val (.ref er_314), .val (.int (1 : Int32))] [(.int (1 : Int32))])) t ∧ _
    refine own_go (fun _ => XS.ifNo X346.here hx rfl (hb hby at_316) rfl ((if0 _ _).trans (feq (by decide : ¬ ((1 : Int32) = (0 : Int32)))).1)) ?_
    refine own_go (fun _ => XS.iconst X346.here hx rfl (hb hby at_319)) ?_
    refine own_go (fun _ => XS.goto X346.here hx rfl (pc0 := 320) (pc' := 324) rfl (hb hby at_320) (by decide) (by decide)) ?_
    refine own_go (fun _ => XS.istore X346.here hx rfl (hb hby at_324) rfl (l' := #[.val (.int x1), .val (.int x2), .val (.int y0), .val (.int y1), .val (.int y2), .val (.ref b6), .val (.ref b36), .val (.ref b176), .val (.ref er_295), .val (.ref er_314), .val (.int (1 : Int32))]) rfl) ?_
    refine own_go (fun _ => XS.iload X346.here hx rfl (hb hby at_326) rfl) ?_
    show ∃ t o, Steps p.tables e below (T346.setTop (mkF m 328 #[.val (.int x1), .val (.int x2), .val (.int y0), .val (.int y1), .val (.int y2), .val (.ref b6), .val (.ref b36), .val (.ref b176), .val (.ref er_295), .val (.ref er_314), .val (.int (1 : Int32))] [(.int (1 : Int32))])) t ∧ _
    refine own_go (fun _ => XS.ifNo X346.here hx rfl (hb hby at_328) rfl ((if0 _ _).trans (feq (by decide : ¬ ((1 : Int32) = (0 : Int32)))).1)) ?_
    obtain ⟨a347, T347, h347, kS347, b347, kb347, X347, e347, E347, hS, hk347, hZ, hown, A347, Fc347, Fv347, Av347, lta347, ltb347, cr347, -, hne347, st347⟩ := ldcCH X346 hx hZ hown w_185 wS e346 hS (by omega) hEL own_mem3 CH317.1 (vs := [(.int (110 : Int32)), (.int (111 : Int32)), (.int (116 : Int32)), (.int (95 : Int32)), (.int (102 : Int32)), (.int (111 : Int32)), (.int (117 : Int32)), (.int (110 : Int32)), (.int (100 : Int32))]) (z := 9) own_ct_6e_6f_74_5f_66_6f_75_6e_64 (by decide) rfl (g := (mkF m 331 #[.val (.int x1), .val (.int x2), .val (.int y0), .val (.int y1), .val (.int y2), .val (.ref b6), .val (.ref b36), .val (.ref b176), .val (.ref er_295), .val (.ref er_314), .val (.int (1 : Int32))] [])) rfl (hb hby at_331) (n := 36) (by decide) (by decide) (by decide) (by decide)
    refine own_go st347 ?_
    have K347 : Keep h0 h347 [] := Keep.ext K316 E347
    have le_347 : h316.size ≤ h347.size := E347.1
    have CH348 := CHr.trans CH317 cr347
    have lt_a347 := own_ltn lta347
    have lt_b347 := own_ltn ltb347
    have Pk349 : Arv Z h347 b347 kb347 .byte (9 : Int32) own_nf (.int (0 : Int32)) := Av347
    refine own_go (fun _ => XS.aload X347.here hx rfl (hb hby at_333) rfl rfl) ?_
    show ∃ t o, Steps p.tables e below (T347.setTop (mkF m 335 #[.val (.int x1), .val (.int x2), .val (.int y0), .val (.int y1), .val (.int y2), .val (.ref b6), .val (.ref b36), .val (.ref b176), .val (.ref er_295), .val (.ref er_314), .val (.int (1 : Int32))] [(.ref er_314), (.ref a347)])) t ∧ _
    have F350 := (Exa.ext E347 (Exa.ext E316 G314_0))
    have F351 := (Fld.ext E347 (Fld.ext E316 G314_1))
    have F352 := (F322.ext E347)
    have zl353 : n0 ≤ h347.size := by omega
    obtain ⟨cq354, kq354, q354a, q354b, q354c⟩ := isOf hZ e347 F350
    obtain ⟨_, _, ⟨T354, L354, k354, n354⟩, -, X354, ⟨Lc354, hQ354, l354, y354, z354⟩, st354⟩ := X347.virtualBack hx (y := (⟨"com/example/earnest_roster/earnestroster/ApiError", "getCode", "()Ljava/lang/String;"⟩ : MethodName)) (z := (⟨"com/example/earnest_roster/earnestroster/ApiError", "getCode", "()Ljava/lang/String;"⟩ : MethodName)) hown (mvT hZ w_186) (mvT hZ w_187) (notFace_of_selects (args := #[]) (mvT hZ w_189)) (mvT hZ w_189) (mvT hZ w_188) (by decide) (backOf (W := 1) (rmGcd l Z a0 hw [] er_314 ac_314 h347 n0 zl353 F351 F352) hZ w_190 w_32 (by decide) (by decide)) q354a q354c (g := (mkF m 335 #[.val (.int x1), .val (.int x2), .val (.int y0), .val (.int y1), .val (.int y2), .val (.ref b6), .val (.ref b36), .val (.ref b176), .val (.ref er_295), .val (.ref er_314), .val (.int (1 : Int32))] [(.ref er_314), (.ref a347)])) rfl (by rw [hml]; rfl) (Steps.refl _) (argsL := []) (rest := [(.ref a347)]) (lenOf pd__28_29Ljava_2flang_2fString_3b rfl) rfl (by show 2 * 0 + _ ≤ _; exact Nat.le_of_eq rfl) (hb hby at_335) (fun _ _ => ⟨rfl, e347, (by decide : 40 + 0 ≤ _), (by decide : 1433 + 0 ≤ _)⟩)
    dsimp only [Pt.U, Pt.locs, Pt.cells, Pt.slots] at X354 l354 y354 z354 st354 hQ354
    rw [l354, y354, z354] at X354
    obtain ⟨rfl, Nq354, e354⟩ := hQ354
    have N354 := Fr.app N346 Nq354
    refine own_goT st354 ?_
    show ∃ t o, Steps p.tables e below (T354.setTop (mkF m 338 #[.val (.int x1), .val (.int x2), .val (.int y0), .val (.int y1), .val (.int y2), .val (.ref b6), .val (.ref b36), .val (.ref b176), .val (.ref er_295), .val (.ref er_314), .val (.int (1 : Int32))] [(.ref ac_314), (.ref a347)])) t ∧ _
    have F355 := (Exa.ext E347 (Exa.ext E316 G314_3))
    have F356 := (Fld.ext E347 (Fld.ext E316 G314_4))
    have F357 := (Fld.ext E347 (Fld.ext E316 G314_5))
    have F358 := ((G314_6.ext E316).ext E347)
    obtain ⟨cq359, kq359, q359a, q359b, q359c⟩ := isOf hZ e354 A347
    obtain ⟨_, _, ⟨T359, L359, k359, n359⟩, -, X359, ⟨Lc359, hQ359, l359, y359, z359⟩, st359⟩ := X354.virtualBack hx (y := (⟨"java/lang/String", "equals", "(Ljava/lang/Object;)Z"⟩ : MethodName)) (z := (⟨"java/lang/String", "equals", "(Ljava/lang/Object;)Z"⟩ : MethodName)) hown (mvT hZ w_191) (mvT hZ w_192) (notFace_of_selects (args := #[]) (mvT hZ w_194)) (mvT hZ w_194) (mvT hZ w_193) (by decide) (backOf (W := 0) (rmEqT l Z a0 hw [] a347 ac_314 b347 kb347 (9 : Int32) own_nf ta_314 ka_314 (9 : Int32) own_nf (0 : Int32) zc h347 n0 zl353 A347 Fv347 Fc347 Pk349 F355 F356 F357 F358 F352 P1 hzc (rfl : own_fit own_nf (9 : Int32)) (rfl : own_fit own_nf (9 : Int32)) (rfl : own_nf = own_nf)) hZ w_195 w_2 (by decide) (by decide)) q359a q359c (g := (mkF m 338 #[.val (.int x1), .val (.int x2), .val (.int y0), .val (.int y1), .val (.int y2), .val (.ref b6), .val (.ref b36), .val (.ref b176), .val (.ref er_295), .val (.ref er_314), .val (.int (1 : Int32))] [(.ref ac_314), (.ref a347)])) rfl (by rw [hml]; rfl) (Steps.refl _) (argsL := [(.ref ac_314)]) (rest := []) (lenOf pd__28Ljava_2flang_2fObject_3b_29Z rfl) rfl (by show 2 * 0 + _ ≤ _; exact Nat.le_of_eq rfl) (hb hby at_338) (fun _ _ => ⟨rfl, e354, (by decide : 40 + 0 ≤ _), (by decide : 1433 + 0 ≤ _)⟩)
    dsimp only [Pt.U, Pt.locs, Pt.cells, Pt.slots] at X359 l359 y359 z359 st359 hQ359
    rw [l359, y359, z359] at X359
    obtain ⟨rfl, Nq359, e359⟩ := hQ359
    have N359 := Fr.app N354 Nq359
    refine own_goT st359 ?_
    show ∃ t o, Steps p.tables e below (T359.setTop (mkF m 341 #[.val (.int x1), .val (.int x2), .val (.int y0), .val (.int y1), .val (.int y2), .val (.ref b6), .val (.ref b36), .val (.ref b176), .val (.ref er_295), .val (.ref er_314), .val (.int (1 : Int32))] [(.int (1 : Int32))])) t ∧ _
    refine own_go (fun _ => XS.ifNo X359.here hx rfl (hb hby at_341) rfl ((if0 _ _).trans (feq (by decide : ¬ ((1 : Int32) = (0 : Int32)))).1)) ?_
    refine own_go (fun _ => XS.iconst X359.here hx rfl (hb hby at_344)) ?_
    refine own_go (fun _ => XS.goto X359.here hx rfl (pc0 := 345) (pc' := 349) rfl (hb hby at_345) (by decide) (by decide)) ?_
    refine own_go (fun _ => XS.istore X359.here hx rfl (hb hby at_349) rfl (l' := #[.val (.int x1), .val (.int x2), .val (.int y0), .val (.int y1), .val (.int y2), .val (.ref b6), .val (.ref b36), .val (.ref b176), .val (.ref er_295), .val (.ref er_314), .val (.int (1 : Int32))]) rfl) ?_
    refine own_go (fun _ => XS.iload X359.here hx rfl (hb hby at_351) rfl) ?_
    show ∃ t o, Steps p.tables e below (T359.setTop (mkF m 353 #[.val (.int x1), .val (.int x2), .val (.int y0), .val (.int y1), .val (.int y2), .val (.ref b6), .val (.ref b36), .val (.ref b176), .val (.ref er_295), .val (.ref er_314), .val (.int (1 : Int32))] [(.int (1 : Int32))])) t ∧ _
    refine own_go (fun _ => XS.ifNo X359.here hx rfl (hb hby at_353) rfl ((if0 _ _).trans (feq (by decide : ¬ ((1 : Int32) = (0 : Int32)))).1)) ?_
    obtain ⟨a360, T360, h360, kS360, b360, kb360, X360, e360, E360, hS, hk360, hZ, hown, A360, Fc360, Fv360, Av360, lta360, ltb360, cr360, -, hne360, st360⟩ := ldcCH X359 hx hZ hown w_206 wS e359 hS (by omega) hEL own_mem4 CH348.1 (vs := [(.int (116 : Int32)), (.int (104 : Int32)), (.int (101 : Int32)), (.int (114 : Int32)), (.int (101 : Int32)), (.int (32 : Int32)), (.int (105 : Int32)), (.int (115 : Int32)), (.int (32 : Int32)), (.int (110 : Int32)), (.int (111 : Int32)), (.int (32 : Int32)), (.int (105 : Int32)), (.int (109 : Int32)), (.int (112 : Int32)), (.int (111 : Int32)), (.int (114 : Int32)), (.int (116 : Int32)), (.int (32 : Int32)), (.int (119 : Int32)), (.int (105 : Int32)), (.int (116 : Int32)), (.int (104 : Int32)), (.int (32 : Int32)), (.int (116 : Int32)), (.int (104 : Int32)), (.int (101 : Int32)), (.int (32 : Int32)), (.int (105 : Int32)), (.int (100 : Int32)), (.int (32 : Int32))]) (z := 31) own_ctw_57 (by decide) rfl (g := (mkF m 356 #[.val (.int x1), .val (.int x2), .val (.int y0), .val (.int y1), .val (.int y2), .val (.ref b6), .val (.ref b36), .val (.ref b176), .val (.ref er_295), .val (.ref er_314), .val (.int (1 : Int32))] [])) rfl (hb hby at_356) (n := 124) (by decide) (by decide) (by decide) (by decide)
    refine own_go st360 ?_
    have K360 : Keep h0 h360 [] := Keep.ext K347 E360
    have le_360 : h347.size ≤ h360.size := E360.1
    have CH361 := CHr.trans CH348 cr360
    have lt_a360 := own_ltn lta360
    have lt_b360 := own_ltn ltb360
    have Pk362 : Arv Z h360 b360 kb360 .byte (31 : Int32) (own_lb own_pre) (.int (0 : Int32)) := Av360
    refine own_go (fun _ => XS.aload X360.here hx rfl (hb hby at_358) rfl rfl) ?_
    show ∃ t o, Steps p.tables e below (T360.setTop (mkF m 360 #[.val (.int x1), .val (.int x2), .val (.int y0), .val (.int y1), .val (.int y2), .val (.ref b6), .val (.ref b36), .val (.ref b176), .val (.ref er_295), .val (.ref er_314), .val (.int (1 : Int32))] [(.ref er_314), (.ref a360)])) t ∧ _
    have F363 := (Exa.ext E360 F350)
    have F364 := (Fld.ext E360 (Fld.ext E347 (Fld.ext E316 G314_2)))
    have F365 := (F352.ext E360)
    have zl366 : n0 ≤ h360.size := by omega
    obtain ⟨cq367, kq367, q367a, q367b, q367c⟩ := isOf hZ e360 F363
    obtain ⟨_, _, ⟨T367, L367, k367, n367⟩, -, X367, ⟨Lc367, hQ367, l367, y367, z367⟩, st367⟩ := X360.virtualBack hx (y := (⟨"com/example/earnest_roster/earnestroster/ApiError", "getMessage", "()Ljava/lang/String;"⟩ : MethodName)) (z := (⟨"com/example/earnest_roster/earnestroster/ApiError", "getMessage", "()Ljava/lang/String;"⟩ : MethodName)) hown (mvT hZ w_196) (mvT hZ w_197) (notFace_of_selects (args := #[]) (mvT hZ w_199)) (mvT hZ w_199) (mvT hZ w_198) (by decide) (backOf (W := 1) (rmGms l Z a0 hw [] er_314 bm_314 h360 n0 zl366 F364 F365) hZ w_200 w_32 (by decide) (by decide)) q367a q367c (g := (mkF m 360 #[.val (.int x1), .val (.int x2), .val (.int y0), .val (.int y1), .val (.int y2), .val (.ref b6), .val (.ref b36), .val (.ref b176), .val (.ref er_295), .val (.ref er_314), .val (.int (1 : Int32))] [(.ref er_314), (.ref a360)])) rfl (by rw [hml]; rfl) (Steps.refl _) (argsL := []) (rest := [(.ref a360)]) (lenOf pd__28_29Ljava_2flang_2fString_3b rfl) rfl (by show 2 * 0 + _ ≤ _; exact Nat.le_of_eq rfl) (hb hby at_360) (fun _ _ => ⟨rfl, e360, (by decide : 42 + 0 ≤ _), (by decide : 1561 + 0 ≤ _)⟩)
    dsimp only [Pt.U, Pt.locs, Pt.cells, Pt.slots] at X367 l367 y367 z367 st367 hQ367
    rw [l367, y367, z367] at X367
    obtain ⟨rfl, Nq367, e367⟩ := hQ367
    have N367 := Fr.app N359 Nq367
    refine own_goT st367 ?_
    show ∃ t o, Steps p.tables e below (T367.setTop (mkF m 363 #[.val (.int x1), .val (.int x2), .val (.int y0), .val (.int y1), .val (.int y2), .val (.ref b6), .val (.ref b36), .val (.ref b176), .val (.ref er_295), .val (.ref er_314), .val (.int (1 : Int32))] [(.ref bm_314), (.ref a360)])) t ∧ _
    have F368 := (Exa.ext E360 (Exa.ext E347 (Exa.ext E316 G314_7)))
    have F369 := (Fld.ext E360 (Fld.ext E347 (Fld.ext E316 G314_8)))
    have F370 := (Fld.ext E360 (Fld.ext E347 (Fld.ext E316 G314_9)))
    have F371 := (((G314_10.ext E316).ext E347).ext E360)
    obtain ⟨cq372, kq372, q372a, q372b, q372c⟩ := isOf hZ e367 A360
    obtain ⟨_, _, ⟨T372, L372, k372, n372⟩, -, X372, ⟨Lc372, hQ372, l372, y372, z372⟩, st372⟩ := X367.virtualBack hx (y := (⟨"java/lang/String", "equals", "(Ljava/lang/Object;)Z"⟩ : MethodName)) (z := (⟨"java/lang/String", "equals", "(Ljava/lang/Object;)Z"⟩ : MethodName)) hown (mvT hZ w_191) (mvT hZ w_192) (notFace_of_selects (args := #[]) (mvT hZ w_194)) (mvT hZ w_194) (mvT hZ w_193) (by decide) (backOf (W := 0) (rmEqT l Z a0 hw [] a360 bm_314 b360 kb360 (31 : Int32) (own_lb own_pre) tm_314 km_314 nm_314 ((([] ++ (own_lb own_pre)) ++ [])) (0 : Int32) zc h360 n0 zl366 A360 Fv360 Fc360 Pk362 F368 F369 F370 F371 F365 P1 hzc (rfl : own_fit (own_lb own_pre) (31 : Int32)) (H314_0 : own_fit (([] ++ (own_lb own_pre)) ++ []) nm_314) ((by simp) : (own_lb own_pre) = (([] ++ (own_lb own_pre)) ++ []))) hZ w_195 w_2 (by decide) (by decide)) q372a q372c (g := (mkF m 363 #[.val (.int x1), .val (.int x2), .val (.int y0), .val (.int y1), .val (.int y2), .val (.ref b6), .val (.ref b36), .val (.ref b176), .val (.ref er_295), .val (.ref er_314), .val (.int (1 : Int32))] [(.ref bm_314), (.ref a360)])) rfl (by rw [hml]; rfl) (Steps.refl _) (argsL := [(.ref bm_314)]) (rest := []) (lenOf pd__28Ljava_2flang_2fObject_3b_29Z rfl) rfl (by show 2 * 0 + _ ≤ _; exact Nat.le_of_eq rfl) (hb hby at_363) (fun _ _ => ⟨rfl, e367, (by decide : 42 + 0 ≤ _), (by decide : 1561 + 0 ≤ _)⟩)
    dsimp only [Pt.U, Pt.locs, Pt.cells, Pt.slots] at X372 l372 y372 z372 st372 hQ372
    rw [l372, y372, z372] at X372
    obtain ⟨rfl, Nq372, e372⟩ := hQ372
    have N372 := Fr.app N367 Nq372
    refine own_goT st372 ?_
    show ∃ t o, Steps p.tables e below (T372.setTop (mkF m 366 #[.val (.int x1), .val (.int x2), .val (.int y0), .val (.int y1), .val (.int y2), .val (.ref b6), .val (.ref b36), .val (.ref b176), .val (.ref er_295), .val (.ref er_314), .val (.int (1 : Int32))] [(.int (1 : Int32))])) t ∧ _
    refine own_go (fun _ => XS.ifNo X372.here hx rfl (hb hby at_366) rfl ((if0 _ _).trans (feq (by decide : ¬ ((1 : Int32) = (0 : Int32)))).1)) ?_
    refine own_go (fun _ => XS.iconst X372.here hx rfl (hb hby at_369)) ?_
    refine own_go (fun _ => XS.goto X372.here hx rfl (pc0 := 370) (pc' := 374) rfl (hb hby at_370) (by decide) (by decide)) ?_
    refine own_go (fun _ => XS.istore X372.here hx rfl (hb hby at_374) rfl (l' := #[.val (.int x1), .val (.int x2), .val (.int y0), .val (.int y1), .val (.int y2), .val (.ref b6), .val (.ref b36), .val (.ref b176), .val (.ref er_295), .val (.ref er_314), .val (.int (1 : Int32))]) rfl) ?_
    refine own_go (fun _ => XS.iload X372.here hx rfl (hb hby at_376) rfl) ?_
    show ∃ t o, Steps p.tables e below (T372.setTop (mkF m 378 #[.val (.int x1), .val (.int x2), .val (.int y0), .val (.int y1), .val (.int y2), .val (.ref b6), .val (.ref b36), .val (.ref b176), .val (.ref er_295), .val (.ref er_314), .val (.int (1 : Int32))] [(.int (1 : Int32))])) t ∧ _
    obtain ⟨fs, hr, hrun, hended, hW⟩ := Jvm.Stand.leaveW X372 hS (by rw [e372]; omega) (v := some (.int (1 : Int32))) (fun h => by rw [Bd.returns] at h; cases h)
    have CHz : CHr Z own_EL s.vm s.heap T372.vm T372.heap := by rw [hh, e372]; exact CHr.trans CH361 (CHv.at X372 hZ hEL CH361.1)
    refine ⟨_, _, ?_, hrun, hended, _, _, rfl, ?_, CHz, ⟨hW.1, hW.2.1, hW.2.2.1, hW.2.2.2.mono (by decide) (by decide)⟩⟩
    · exact retN X372 hx (t := .boolean) Bd.returns (by simp) (hb hby at_378) hr
    · show Q_rm0 Z _ _ _ _ h0 n0 _ T372.heap _
      rw [e372]
      exact ⟨rfl, N372, K360⟩
set_option maxRecDepth 65536 in
set_option maxHeartbeats 40000000 in
theorem comes_1 {Post : Tables → Env → Array Value → State → Outcome → State → Prop} (hpost : ∀ tb e args s v u, (limb_1_1.after args s (.returned v) u = true ∧ limb_1_2.after args s (.returned v) u = true ∧ True) → ReturnedEndW s (.returned v) u (Jvm.fieldLocs frame_1_writes args s ++ Jvm.arrayLocs frame_1_arrays args s ++ Jvm.staticLocs frame_1_statics s) 64 6144 → Post tb e args s (.returned v) u) :
    ArmFor flags0 classFile x code maxLocals ret World_1 tables_1 room_1 Calls_1 rest_1 Pre_1 Post := by
  intro l hfl _ _ p e ha hc hk s m args below hf hA hF happ hP
  obtain ⟨hcalls, hrest, hpre⟩ := hP
  obtain ⟨-, -, -, hnamed, -, -, -, hat⟩ := (Spec.applies_iff hf).mp happ
  obtain ⟨hg, hn⟩ := and_e (Cond.before_iff.mp (show (Jvm.Cond.and given_1 narrow_1).before args s = true from hpre))
  obtain ⟨g1, g2⟩ := and_e hg
  obtain ⟨g3, g4⟩ := and_e g2
  obtain ⟨w0, w1, rfl⟩ : ∃ w0 w1 : Value, args = #[w0, w1] := by
    have hs : args.size = 2 := by simpa [Cond.value, given_1] using g1
    obtain ⟨L⟩ := args
    match L, hs with
    | [w0, w1], _ => exact ⟨w0, w1, rfl⟩
  have hw := fun d (hd : d ∈ tables_1) => atoms_spec (ws := Jvm.Cond.code x code maxLocals ret :: tables_1) hat d (List.mem_cons_of_mem _ hd)
  have hfit : Fit s := fun {y c} hc i hi => by
    obtain ⟨ha, rfl⟩ := Array.getElem?_eq_some_iff.mp hc
    have q := List.all_eq_true.mp ((Array.all_eq_true_iff_forall_mem.mp hF) _ (Array.getElem_mem ha)) i (List.mem_range.mpr hi)
    simpa [Array.getElem?_eq_getElem hi] using q
  obtain ⟨hsets, hown0⟩ := atoms_of _ (rest_1_c_eq ▸ (show rest_1_c.before _ s = true from hrest))
  have hr0 := Cond.before_iff.mp hown0
  obtain ⟨i0, ei0⟩ := is_v g3
  obtain rfl : w0 = (.int i0) := Option.some.inj ei0
  obtain ⟨i1, ei1⟩ := is_v g4
  obtain rfl : w1 = (.int i1) := Option.some.inj ei1
  have CI : (Jvm.Cond.isInt (Jvm.Term.static "java/lang/String" "COMPACT_STRINGS" "Z")).value _ s none s [] = some true := Cond.before_iff.mp (hsets _ (List.mem_of_getElem? (i := 1) rfl))
  obtain ⟨zc, evc⟩ := is_v CI
  have SCS : Sta s s.heap "java/lang/String" "COMPACT_STRINGS" "Z" (.int zc) := Sta.start evc (Or.inl (hsets _ (List.mem_of_getElem? (i := 0) rfl)))
  have hzc : ¬ (zc = (0 : Int32)) := gotF (Cond.eq_ints evc (Term.int_eval (0 : Int32))) (not_v (Cond.before_iff.mp (hsets _ (List.mem_of_getElem? (i := 2) rfl))))
  have FI : (Jvm.Cond.isRef (Jvm.Term.static "jdk/internal/util/Preconditions" "SIOOBE_FORMATTER" "Ljava/util/function/BiFunction;")).value _ s none s [] = some true := Cond.before_iff.mp (hsets _ (List.mem_of_getElem? (i := 8) rfl))
  obtain ⟨gv, evg, hgv⟩ := isR_v FI
  have SFM : Sta s s.heap "jdk/internal/util/Preconditions" "SIOOBE_FORMATTER" "Ljava/util/function/BiFunction;" gv := Sta.start evg (Or.inl (hsets _ (List.mem_of_getElem? (i := 7) rfl)))
  have ESAD : (Jvm.Cond.eq (Jvm.Term.static "java/lang/StringUTF16" "$assertionsDisabled" "Z") (Jvm.Term.int (1 : Int32))).value _ s none s [] = some true := Cond.before_iff.mp (hsets _ (List.mem_of_getElem? (i := 12) rfl))
  have SAD : Sta s s.heap "java/lang/StringUTF16" "$assertionsDisabled" "Z" (.int (1 : Int32)) := Sta.start (eqv_i (Term.int_eval (1 : Int32)) ESAD) (Or.inl (hsets _ (List.mem_of_getElem? (i := 11) rfl)))
  have ESHI : (Jvm.Cond.eq (Jvm.Term.static "java/lang/StringUTF16" "HI_BYTE_SHIFT" "I") (Jvm.Term.int (0 : Int32))).value _ s none s [] = some true := Cond.before_iff.mp (hsets _ (List.mem_of_getElem? (i := 15) rfl))
  have SHI : Sta s s.heap "java/lang/StringUTF16" "HI_BYTE_SHIFT" "I" (.int (0 : Int32)) := Sta.start (eqv_i (Term.int_eval (0 : Int32)) ESHI) (Or.inl (hsets _ (List.mem_of_getElem? (i := 14) rfl)))
  have ESLO : (Jvm.Cond.eq (Jvm.Term.static "java/lang/StringUTF16" "LO_BYTE_SHIFT" "I") (Jvm.Term.int (8 : Int32))).value _ s none s [] = some true := Cond.before_iff.mp (hsets _ (List.mem_of_getElem? (i := 18) rfl))
  have SLO : Sta s s.heap "java/lang/StringUTF16" "LO_BYTE_SHIFT" "I" (.int (8 : Int32)) := Sta.start (eqv_i (Term.int_eval (8 : Int32)) ESLO) (Or.inl (hsets _ (List.mem_of_getElem? (i := 17) rfl)))
  have hEL : EW s _ own_EL := (EW.cons (own := "java/lang/String") (index := 7) (hw _ (List.mem_of_getElem? (i := 178) rfl)) (by decide) (EW.cons (own := "com/example/earnest_roster/earnestroster/ApiError") (index := 16) (hw _ (List.mem_of_getElem? (i := 36) rfl)) (by decide) (EW.cons (own := "com/example/earnest_roster/earnestroster/ApiError") (index := 34) (hw _ (List.mem_of_getElem? (i := 57) rfl)) (by decide) (EW.cons (own := "com/example/earnest_roster/earnestroster/ApiErrorNoImportWithIdPinLaw") (index := 18) (hw _ (List.mem_of_getElem? (i := 185) rfl)) (by decide) (EW.cons (own := "com/example/earnest_roster/earnestroster/ApiErrorNoImportWithIdPinLaw") (index := 31) (hw _ (List.mem_of_getElem? (i := 206) rfl)) (by decide) EW.nil)))))
  have hCH0 : CHv s own_EL s.vm s.heap := CHv.start hEL (fun p hp => hcalls.1 p ((by decide : ∀ q ∈ own_EL, q ∈ consts_1) p hp)) (hsets _ (List.mem_of_getElem? (i := 2) rfl)) (hw _ (List.mem_of_getElem? (i := 19) rfl)) (hw _ (List.mem_of_getElem? (i := 1) rfl))
  have OLD := Old.start s
  obtain ⟨n, o, h1, h2, h3, _, L, rfl, ⟨rfl, N, -⟩, -, hq⟩ := rm0 l s _ hw tables_1 i0 i1 zc gv s.heap s.heap.size (Nat.le_refl _) OLD SCS SAD SHI SLO SFM hzc hgv hEL p e ha hc hk s m _ below hf ((Spec.applies_iff_loose hf).mp happ).1 ⟨rfl, State.Warmed39.refl s, rfl, hCH0⟩ trivial
  refine ⟨n, _, h1, h2, h3, hpost _ _ _ _ _ _ ⟨Cond.after_iff.mpr rfl, Cond.after_iff.mpr (eq_i res_at (Term.int_eval (1)) rfl), trivial⟩ ⟨hq.1, hq.2.1, hq.2.2.1, (hq.2.2.2.sift fun y hy => Or.inr (N y hy)).mono (by decide) (by decide)⟩⟩
theorem main_1_1 : Claimed_1_1 := comes_1 fun _ _ _ _ _ _ h hF => ⟨h.1, hF⟩
theorem main_1_2 : Claimed_1_2 := comes_1 fun _ _ _ _ _ _ h hF => ⟨h.2.1, hF⟩
end Jvm.Pilot.@@N@@
namespace Jvm.Pilot.@@N@@
open Jvm Jvm.ClassFile Sem Op Lib Jvm.Free Jvm.Stand Jvm.Pilot.@@N@@.Jvm.D
/-! MADE BY PROGRAM (witnessworld.py) out of the Statement's table words and the real class files: 26 classes; the members and pool entries that the words name. The judged class is class 1, her method 1. -/
namespace start1
open Jvm.ClassFile
def u (s : String) : CpInfo := .utf8 (stringToUtf16 s)
/-- a pool by its gaps: so many unusable entries, then the entry; so many at the end -/
def gap : Nat → List CpInfo → List CpInfo
  | 0, r => r
  | n + 1, r => .unusable :: gap n r
def poolList (es : List (Nat × CpInfo)) (last : Nat) : List CpInfo := es.foldr (fun e r => gap e.1 (e.2 :: r)) (gap last [])
def pool (es : List (Nat × CpInfo)) (last : Nat) : Array CpInfo := ⟨poolList es last⟩
def fileOf (pool : Array CpInfo) (this : Nat) (attrs : Array Attribute := #[]) (ms : Array MethodInfo := #[]) (fl : Nat := 33) (sup : Nat := 0) (ifs : Array Nat := #[]) (fds : Array FieldInfo := #[]) : ClassFile where
  minorVersion := 0
  majorVersion := 65
  constantPool := pool
  accessFlags := fl
  thisClass := this
  superClass := sup
  interfaces := ifs
  fields := fds
  methods := ms
  attributes := attrs
def plain (name : String) (sup : Option ClassId) : Class where
  name := name
  kind := .ordinary
  loader := none
  accessFlags := 33
  super := sup
  interfaces := #[]
  cf := none
  fields := #[]
  methods := #[]
  instanceTypes := #[]
  staticTypes := #[]
  resolved := #[]
  callSites := []
  init := .initialized
  statics := none
  mirror := none

def pool0 : Array CpInfo := pool [(5, u "<init>"), (0, u "()V"), (1, .class_ 10), (1, u "java/lang/Object"), (85, u "clone"), (0, u "()Ljava/lang/Object;")] 26

def k0c0 : Code := { maxStack := 0, maxLocals := 1, code := object_method_1_code, exceptionTable := #[], attributes := #[] }
def k0m0 : Method := { name := "<init>", desc := "()V", sig := { parameters := [], returnType := none }, accessFlags := 1, code := some k0c0 }
def k0m1 : Method := { name := "clone", desc := "()Ljava/lang/Object;", sig := { parameters := [], returnType := some (.object "java/lang/Object") }, accessFlags := 260, code := none }
/-- java/lang/Object -/
def k0 : Class := { plain "java/lang/Object" none with
  accessFlags := 33
  interfaces := #[]
  cf := some (fileOf pool0 8 #[] #[{ accessFlags := 1, nameIndex := 5, descriptorIndex := 6, attributes := #[] }, { accessFlags := 260, nameIndex := 96, descriptorIndex := 97, attributes := #[] }] 33 0 #[] #[])
  fields := #[]
  methods := #[k0m0, k0m1]
  instanceTypes := #[]
  staticTypes := #[]
  resolved := Array.replicate 124 none
  statics := none }

def pool1 : Array CpInfo := pool [(2, .class_ 4), (1, u "java/lang/Object"), (0, u "<init>"), (0, u "()V"), (0, .class_ 8), (0, u "java/lang/String"), (0, .methodref 7 10), (0, .nameAndType 5 11), (0, u "([C)V"), (0, .methodref 13 14), (0, .class_ 15), (0, .nameAndType 16 17), (0, u "com/example/earnest_roster/earnestroster/ApiError"), (0, u "noImportWithId"), (0, u "(Ljava/lang/String;)Lcom/example/earnest_roster/earnestroster/ApiError;"), (0, .string 19), (0, u "not_found"), (0, .methodref 13 21), (0, .nameAndType 22 23), (0, u "getCode"), (0, u "()Ljava/lang/String;"), (0, .methodref 7 25), (0, .nameAndType 26 27), (0, u "equals"), (0, u "(Ljava/lang/Object;)Z"), (0, .methodref 13 29), (0, .nameAndType 30 23), (0, u "getMessage"), (0, .string 32), (0, u own_tx_57), (0, .class_ 34), (0, u "com/example/earnest_roster/earnestroster/ApiErrorNoImportWithIdPinLaw"), (2, u "law"), (0, u "(II)Z")] 5

def k1m0 : Method := { name := "<init>", desc := "()V", sig := { parameters := [], returnType := none }, accessFlags := 1, code := none }
def k1c1 : Code := { maxStack := 6, maxLocals := 11, code := code, exceptionTable := #[], attributes := #[] }
def k1m1 : Method := { name := "law", desc := "(II)Z", sig := { parameters := [.int, .int], returnType := some .boolean }, accessFlags := 9, code := some k1c1 }
/-- com/example/earnest_roster/earnestroster/ApiErrorNoImportWithIdPinLaw -/
def k1 : Class := { plain "com/example/earnest_roster/earnestroster/ApiErrorNoImportWithIdPinLaw" (some 0) with
  accessFlags := 49
  interfaces := #[]
  cf := some (fileOf pool1 33 #[] #[{ accessFlags := 1, nameIndex := 5, descriptorIndex := 6, attributes := #[] }, { accessFlags := 9, nameIndex := 37, descriptorIndex := 38, attributes := #[] }] 49 2 #[] #[])
  fields := #[]
  methods := #[k1m0, k1m1]
  instanceTypes := #[]
  staticTypes := #[]
  resolved := Array.replicate 44 none
  statics := none }

def pool2 : Array CpInfo := pool [(1, .class_ 2), (0, u "java/io/Serializable"), (0, .class_ 4), (0, u "java/lang/Object")] 2

/-- java/io/Serializable -/
def k2 : Class := { plain "java/io/Serializable" (some 0) with
  accessFlags := 1537
  interfaces := #[]
  cf := some (fileOf pool2 1 #[] #[] 1537 3 #[] #[])
  fields := #[]
  methods := #[]
  instanceTypes := #[]
  staticTypes := #[]
  resolved := Array.replicate 7 none
  statics := none }

def pool3 : Array CpInfo := pool [(1, .class_ 2), (0, u "java/lang/Comparable"), (0, .class_ 4), (0, u "java/lang/Object")] 7

/-- java/lang/Comparable -/
def k3 : Class := { plain "java/lang/Comparable" (some 0) with
  accessFlags := 1537
  interfaces := #[]
  cf := some (fileOf pool3 1 #[] #[] 1537 3 #[] #[])
  fields := #[]
  methods := #[]
  instanceTypes := #[]
  staticTypes := #[]
  resolved := Array.replicate 12 none
  statics := none }

def pool4 : Array CpInfo := pool [(2, .class_ 4), (1, u "java/lang/CharSequence"), (42, .class_ 48), (0, u "java/lang/CharSequence$1CodePointIterator"), (10, .class_ 60), (0, u "java/lang/CharSequence$1CharIterator"), (5, .class_ 67), (0, u "java/lang/Object")] 63

/-- java/lang/CharSequence -/
def k4 : Class := { plain "java/lang/CharSequence" (some 0) with
  accessFlags := 1537
  interfaces := #[]
  cf := some (fileOf pool4 2 #[.nestMembers #[47, 59]] #[] 1537 66 #[] #[])
  fields := #[]
  methods := #[]
  instanceTypes := #[]
  staticTypes := #[]
  resolved := Array.replicate 131 none
  statics := none }

def pool5 : Array CpInfo := pool [(1, .class_ 2), (0, u "java/lang/constant/Constable"), (0, .class_ 4), (0, u "java/lang/Object")] 6

/-- java/lang/constant/Constable -/
def k5 : Class := { plain "java/lang/constant/Constable" (some 0) with
  accessFlags := 1537
  interfaces := #[]
  cf := some (fileOf pool5 1 #[] #[] 1537 3 #[] #[])
  fields := #[]
  methods := #[]
  instanceTypes := #[]
  staticTypes := #[]
  resolved := Array.replicate 11 none
  statics := none }

def pool6 : Array CpInfo := pool [(1, .class_ 2), (0, u "java/lang/constant/ConstantDesc"), (0, .class_ 4), (0, u "java/lang/Object")] 32

/-- java/lang/constant/ConstantDesc -/
def k6 : Class := { plain "java/lang/constant/ConstantDesc" (some 0) with
  accessFlags := 1537
  interfaces := #[]
  cf := some (fileOf pool6 1 #[] #[] 1537 3 #[] #[])
  fields := #[]
  methods := #[]
  instanceTypes := #[]
  staticTypes := #[]
  resolved := Array.replicate 37 none
  statics := none }

def pool7 : Array CpInfo := pool [(1, .methodref 2 3), (0, .class_ 4), (0, .nameAndType 5 6), (0, u "java/lang/Object"), (0, u "<init>"), (0, u "()V"), (0, .string 8), (0, u ""), (0, .fieldref 10 11), (0, .class_ 12), (0, .nameAndType 13 14), (0, u "java/lang/String"), (0, u "value"), (0, u "[B"), (0, .fieldref 10 16), (0, .nameAndType 17 18), (0, u "coder"), (0, u "B"), (2, u "hash"), (0, u "I"), (2, u "hashIsZero"), (0, u "Z"), (0, .methodref 10 28), (0, .nameAndType 5 29), (0, u "([CIILjava/lang/Void;)V"), (6, u "checkBoundsOffCount"), (0, u "(III)I"), (0, .fieldref 10 39), (0, .nameAndType 40 26), (0, u "COMPACT_STRINGS"), (1, .class_ 44), (1, u "java/lang/StringUTF16"), (0, u "compress"), (1, .methodref 42 48), (0, .nameAndType 49 50), (0, u "coderFromArrayLen"), (0, u "([BI)B"), (3, .methodref 55 56), (0, .class_ 57), (0, .nameAndType 58 59), (0, u "java/util/Arrays"), (0, u "copyOfRange"), (0, u "([BII)[B"), (47, .class_ 109), (1, u "java/lang/StringLatin1"), (32, u "()Z"), (34, .methodref 42 178), (0, .nameAndType 45 179), (0, u "([CII)[B"), (13, .class_ 195), (1, u "java/lang/System"), (16, .methodref 193 213), (0, .nameAndType 214 215), (0, u "arraycopy"), (0, u "(Ljava/lang/Object;ILjava/lang/Object;II)V"), (118, u "()I"), (0, .methodref 10 336), (0, .nameAndType 17 337), (0, u "()B"), (2, u "()[B"), (148, .methodref 10 490), (0, .nameAndType 5 491), (0, u "(Ljava/lang/AbstractStringBuilder;Ljava/lang/Void;)V"), (1, .nameAndType 494 142), (0, u "isLatin1"), (11, .nameAndType 507 334), (0, u "length"), (24, u "getBytes"), (8, .methodref 107 542), (0, .nameAndType 543 544), (0, u "equals"), (0, u "([B[B)Z"), (4, .methodref 550 506), (0, .class_ 551), (0, u "java/lang/AbstractStringBuilder"), (0, .methodref 550 553), (0, .nameAndType 554 340), (0, u "getValue"), (18, u "(Ljava/lang/Object;)Z"), (1, .class_ 576), (0, u "java/lang/CharSequence"), (22, u "CASE_INSENSITIVE_ORDER"), (0, u "Ljava/util/Comparator;"), (220, u "([BIB)V"), (188, u "([C)V"), (36, .methodref 550 493), (0, .fieldref 550 1049), (0, .nameAndType 1050 26), (0, u "maybeLatin1"), (2, .fieldref 1054 1055), (0, .class_ 1056), (0, .nameAndType 1057 1058), (0, u "jdk/internal/util/Preconditions"), (0, u "SIOOBE_FORMATTER"), (0, u "Ljava/util/function/BiFunction;"), (5, u "(IIILjava/util/function/BiFunction;)I"), (0, .methodref 1054 1066), (0, .nameAndType 1067 1064), (0, u "checkFromIndexSize"), (33, u "serialPersistentFields"), (0, u "[Ljava/io/ObjectStreamField;"), (0, .class_ 1104), (0, u "java/lang/String$CaseInsensitiveComparator"), (1, .class_ 1107), (0, u "java/io/Serializable"), (0, .class_ 1109), (0, u "java/lang/Comparable"), (0, .class_ 1111), (0, u "java/lang/constant/Constable"), (0, .class_ 1113), (0, u "java/lang/constant/ConstantDesc"), (2, u "serialVersionUID"), (0, u "J"), (3, u "REPL"), (0, u "C"), (2, u "LATIN1"), (1, u "UTF16"), (105, u "(Ljava/lang/StringBuilder;)V")] 217

def k7m0 : Method := { name := "<init>", desc := "()V", sig := { parameters := [], returnType := none }, accessFlags := 1, code := none }
def k7c1 : Code := { maxStack := 5, maxLocals := 2, code := jdk_42_method_3_code, exceptionTable := #[], attributes := #[] }
def k7m1 : Method := { name := "<init>", desc := "([C)V", sig := { parameters := [(.array .char)], returnType := none }, accessFlags := 1, code := some k7c1 }
def k7c2 : Code := { maxStack := 3, maxLocals := 2, code := jdk_42_method_53_code, exceptionTable := #[], attributes := #[] }
def k7m2 : Method := { name := "<init>", desc := "(Ljava/lang/StringBuilder;)V", sig := { parameters := [(.object "java/lang/StringBuilder")], returnType := none }, accessFlags := 1, code := some k7c2 }
def k7c3 : Code := { maxStack := 2, maxLocals := 1, code := jdk_42_method_54_code, exceptionTable := #[], attributes := #[] }
def k7m3 : Method := { name := "length", desc := "()I", sig := { parameters := [], returnType := some .int }, accessFlags := 1, code := some k7c3 }
def k7c4 : Code := { maxStack := 2, maxLocals := 3, code := jdk_42_method_66_code, exceptionTable := #[], attributes := #[] }
def k7m4 : Method := { name := "equals", desc := "(Ljava/lang/Object;)Z", sig := { parameters := [(.object "java/lang/Object")], returnType := some .boolean }, accessFlags := 1, code := some k7c4 }
def k7c5 : Code := { maxStack := 5, maxLocals := 4, code := jdk_42_method_147_code, exceptionTable := #[], attributes := #[] }
def k7m5 : Method := { name := "getBytes", desc := "([BIB)V", sig := { parameters := [(.array .byte), .int, .byte], returnType := none }, accessFlags := 0, code := some k7c5 }
def k7c6 : Code := { maxStack := 4, maxLocals := 6, code := jdk_42_method_149_code, exceptionTable := #[], attributes := #[] }
def k7m6 : Method := { name := "<init>", desc := "([CIILjava/lang/Void;)V", sig := { parameters := [(.array .char), .int, .int, (.object "java/lang/Void")], returnType := none }, accessFlags := 2, code := some k7c6 }
def k7c7 : Code := { maxStack := 5, maxLocals := 5, code := jdk_42_method_150_code, exceptionTable := #[], attributes := #[] }
def k7m7 : Method := { name := "<init>", desc := "(Ljava/lang/AbstractStringBuilder;Ljava/lang/Void;)V", sig := { parameters := [(.object "java/lang/AbstractStringBuilder"), (.object "java/lang/Void")], returnType := none }, accessFlags := 0, code := some k7c7 }
def k7c8 : Code := { maxStack := 1, maxLocals := 1, code := jdk_42_method_152_code, exceptionTable := #[], attributes := #[] }
def k7m8 : Method := { name := "coder", desc := "()B", sig := { parameters := [], returnType := some .byte }, accessFlags := 0, code := some k7c8 }
def k7c9 : Code := { maxStack := 4, maxLocals := 3, code := jdk_42_method_157_code, exceptionTable := #[], attributes := #[] }
def k7m9 : Method := { name := "checkBoundsOffCount", desc := "(III)I", sig := { parameters := [.int, .int, .int], returnType := some .int }, accessFlags := 8, code := some k7c9 }
/-- java/lang/String -/
def k7 : Class := { plain "java/lang/String" (some 0) with
  accessFlags := 49
  interfaces := #[2, 3, 4, 5, 6]
  cf := some (fileOf pool7 10 #[.nestMembers #[1103]] #[{ accessFlags := 1, nameIndex := 5, descriptorIndex := 6, attributes := #[] }, { accessFlags := 1, nameIndex := 5, descriptorIndex := 1010, attributes := #[] }, { accessFlags := 1, nameIndex := 5, descriptorIndex := 1233, attributes := #[] }, { accessFlags := 1, nameIndex := 507, descriptorIndex := 334, attributes := #[] }, { accessFlags := 1, nameIndex := 543, descriptorIndex := 573, attributes := #[] }, { accessFlags := 0, nameIndex := 532, descriptorIndex := 821, attributes := #[] }, { accessFlags := 2, nameIndex := 5, descriptorIndex := 29, attributes := #[] }, { accessFlags := 0, nameIndex := 5, descriptorIndex := 491, attributes := #[] }, { accessFlags := 0, nameIndex := 17, descriptorIndex := 337, attributes := #[] }, { accessFlags := 8, nameIndex := 36, descriptorIndex := 37, attributes := #[] }] 49 2 #[1106, 1108, 575, 1110, 1112] #[{ accessFlags := 18, nameIndex := 13, descriptorIndex := 14, attributes := #[] }, { accessFlags := 18, nameIndex := 17, descriptorIndex := 18, attributes := #[] }, { accessFlags := 2, nameIndex := 21, descriptorIndex := 22, attributes := #[] }, { accessFlags := 2, nameIndex := 25, descriptorIndex := 26, attributes := #[] }, { accessFlags := 26, nameIndex := 1116, descriptorIndex := 1117, attributes := #[] }, { accessFlags := 24, nameIndex := 40, descriptorIndex := 26, attributes := #[] }, { accessFlags := 26, nameIndex := 1101, descriptorIndex := 1102, attributes := #[] }, { accessFlags := 26, nameIndex := 1121, descriptorIndex := 1122, attributes := #[] }, { accessFlags := 25, nameIndex := 599, descriptorIndex := 600, attributes := #[] }, { accessFlags := 24, nameIndex := 1125, descriptorIndex := 18, attributes := #[] }, { accessFlags := 24, nameIndex := 1127, descriptorIndex := 18, attributes := #[] }])
  fields := #[{ name := "value", type := (.array .byte), accessFlags := 18, slot := 0, constantValue := 0 }, { name := "coder", type := .byte, accessFlags := 18, slot := 1, constantValue := 0 }, { name := "hash", type := .int, accessFlags := 2, slot := 2, constantValue := 0 }, { name := "hashIsZero", type := .boolean, accessFlags := 2, slot := 3, constantValue := 0 }, { name := "serialVersionUID", type := .long, accessFlags := 26, slot := 0, constantValue := 0 }, { name := "COMPACT_STRINGS", type := .boolean, accessFlags := 24, slot := 1, constantValue := 0 }, { name := "serialPersistentFields", type := (.array (.object "java/io/ObjectStreamField")), accessFlags := 26, slot := 2, constantValue := 0 }, { name := "REPL", type := .char, accessFlags := 26, slot := 3, constantValue := 0 }, { name := "CASE_INSENSITIVE_ORDER", type := (.object "java/util/Comparator"), accessFlags := 25, slot := 4, constantValue := 0 }, { name := "LATIN1", type := .byte, accessFlags := 24, slot := 5, constantValue := 0 }, { name := "UTF16", type := .byte, accessFlags := 24, slot := 6, constantValue := 0 }]
  methods := #[k7m0, k7m1, k7m2, k7m3, k7m4, k7m5, k7m6, k7m7, k7m8, k7m9]
  instanceTypes := #[(.array .byte), .byte, .int, .boolean]
  staticTypes := #[.long, .boolean, (.array (.object "java/io/ObjectStreamField")), .char, (.object "java/util/Comparator"), .byte, .byte]
  resolved := Array.replicate 1451 none
  statics := some 0 }

def pool8 : Array CpInfo := pool [(3, .class_ 4), (0, u "java/lang/String"), (1, .class_ 8), (1, u "java/lang/Object"), (0, u "<init>"), (0, u "()V"), (0, .methodref 12 13), (0, .class_ 14), (0, .nameAndType 15 16), (0, u "java/lang/StringUTF16"), (0, u "newBytesLength"), (0, u "(I)I"), (3, .integer 1073741823), (23, .fieldref 12 45), (0, .nameAndType 46 47), (0, u "$assertionsDisabled"), (0, u "Z"), (0, .methodref 12 49), (0, .nameAndType 50 51), (0, u "length"), (0, u "([B)I"), (7, .fieldref 12 60), (0, .nameAndType 61 62), (0, u "HI_BYTE_SHIFT"), (0, u "I"), (0, .fieldref 12 64), (0, .nameAndType 65 62), (0, u "LO_BYTE_SHIFT"), (5, .methodref 12 72), (0, .nameAndType 73 74), (0, u "getChar"), (0, u "([BI)C"), (24, u "(II[B)V"), (7, .methodref 12 108), (0, .nameAndType 109 110), (0, u "newBytesFor"), (0, u "(I)[B"), (0, .methodref 12 112), (0, .nameAndType 113 114), (0, u "putChar"), (0, u "([BII)V"), (0, .methodref 12 116), (0, .nameAndType 117 118), (0, u "compress"), (0, u "([CI[BII)I"), (0, .methodref 12 120), (0, .nameAndType 121 122), (0, u "toBytes"), (0, u "([CII)[B"), (17, u "inflate"), (0, u "([BI[BII)V"), (31, .methodref 12 174), (0, .nameAndType 175 99), (0, u "checkBoundsOffCount"), (85, u "coderFromArrayLen"), (0, u "([BI)B"), (18, u "(III)I"), (87, .class_ 371), (1, u "java/lang/StringUTF16$LinesSpliterator"), (47, .methodref 3 420), (0, .nameAndType 175 281), (9, u "MAX_LENGTH"), (196, .class_ 628), (0, u "java/lang/StringUTF16$CodePointsSpliterator"), (0, .class_ 630), (0, u "java/lang/StringUTF16$CharsSpliterator")] 4

def k8m0 : Method := { name := "<init>", desc := "()V", sig := { parameters := [], returnType := none }, accessFlags := 0, code := none }
def k8c1 : Code := { maxStack := 1, maxLocals := 1, code := jdk_52_method_2_code, exceptionTable := #[], attributes := #[] }
def k8m1 : Method := { name := "newBytesFor", desc := "(I)[B", sig := { parameters := [.int], returnType := some (.array .byte) }, accessFlags := 9, code := some k8c1 }
def k8c2 : Code := { maxStack := 4, maxLocals := 1, code := jdk_52_method_3_code, exceptionTable := #[], attributes := #[] }
def k8m2 : Method := { name := "newBytesLength", desc := "(I)I", sig := { parameters := [.int], returnType := some .int }, accessFlags := 9, code := some k8c2 }
def k8c3 : Code := { maxStack := 4, maxLocals := 3, code := jdk_52_method_4_code, exceptionTable := #[], attributes := #[] }
def k8m3 : Method := { name := "putChar", desc := "([BII)V", sig := { parameters := [(.array .byte), .int, .int], returnType := none }, accessFlags := 8, code := some k8c3 }
def k8c4 : Code := { maxStack := 3, maxLocals := 2, code := jdk_52_method_5_code, exceptionTable := #[], attributes := #[] }
def k8m4 : Method := { name := "getChar", desc := "([BI)C", sig := { parameters := [(.array .byte), .int], returnType := some .char }, accessFlags := 8, code := some k8c4 }
def k8c5 : Code := { maxStack := 2, maxLocals := 1, code := jdk_52_method_6_code, exceptionTable := #[], attributes := #[] }
def k8m5 : Method := { name := "length", desc := "([B)I", sig := { parameters := [(.array .byte)], returnType := some .int }, accessFlags := 9, code := some k8c5 }
def k8c6 : Code := { maxStack := 4, maxLocals := 5, code := jdk_52_method_14_code, exceptionTable := #[], attributes := #[] }
def k8m6 : Method := { name := "toBytes", desc := "([CII)[B", sig := { parameters := [(.array .char), .int, .int], returnType := some (.array .byte) }, accessFlags := 9, code := some k8c6 }
def k8c7 : Code := { maxStack := 2, maxLocals := 2, code := jdk_52_method_15_code, exceptionTable := #[], attributes := #[] }
def k8m7 : Method := { name := "coderFromArrayLen", desc := "([BI)B", sig := { parameters := [(.array .byte), .int], returnType := some .byte }, accessFlags := 8, code := some k8c7 }
def k8c8 : Code := { maxStack := 5, maxLocals := 6, code := jdk_52_method_16_code, exceptionTable := #[], attributes := #[] }
def k8m8 : Method := { name := "compress", desc := "([CII)[B", sig := { parameters := [(.array .char), .int, .int], returnType := some (.array .byte) }, accessFlags := 9, code := some k8c8 }
def k8c9 : Code := { maxStack := 3, maxLocals := 7, code := jdk_52_method_21_code, exceptionTable := #[], attributes := #[] }
def k8m9 : Method := { name := "compress", desc := "([CI[BII)I", sig := { parameters := [(.array .char), .int, (.array .byte), .int, .int], returnType := some .int }, accessFlags := 9, code := some k8c9 }
def k8c10 : Code := { maxStack := 4, maxLocals := 6, code := jdk_52_method_86_code, exceptionTable := #[], attributes := #[] }
def k8m10 : Method := { name := "inflate", desc := "([BI[BII)V", sig := { parameters := [(.array .byte), .int, (.array .byte), .int, .int], returnType := none }, accessFlags := 9, code := some k8c10 }
def k8c11 : Code := { maxStack := 3, maxLocals := 3, code := jdk_52_method_94_code, exceptionTable := #[], attributes := #[] }
def k8m11 : Method := { name := "checkBoundsOffCount", desc := "(II[B)V", sig := { parameters := [.int, .int, (.array .byte)], returnType := none }, accessFlags := 9, code := some k8c11 }
/-- java/lang/StringUTF16 -/
def k8 : Class := { plain "java/lang/StringUTF16" (some 0) with
  accessFlags := 48
  interfaces := #[]
  cf := some (fileOf pool8 12 #[.nestMembers #[627, 629, 369]] #[{ accessFlags := 0, nameIndex := 9, descriptorIndex := 10, attributes := #[] }, { accessFlags := 9, nameIndex := 109, descriptorIndex := 110, attributes := #[] }, { accessFlags := 9, nameIndex := 15, descriptorIndex := 16, attributes := #[] }, { accessFlags := 8, nameIndex := 113, descriptorIndex := 114, attributes := #[] }, { accessFlags := 8, nameIndex := 73, descriptorIndex := 74, attributes := #[] }, { accessFlags := 9, nameIndex := 50, descriptorIndex := 51, attributes := #[] }, { accessFlags := 9, nameIndex := 121, descriptorIndex := 122, attributes := #[] }, { accessFlags := 8, nameIndex := 261, descriptorIndex := 262, attributes := #[] }, { accessFlags := 9, nameIndex := 117, descriptorIndex := 122, attributes := #[] }, { accessFlags := 9, nameIndex := 117, descriptorIndex := 118, attributes := #[] }, { accessFlags := 9, nameIndex := 140, descriptorIndex := 141, attributes := #[] }, { accessFlags := 9, nameIndex := 175, descriptorIndex := 99, attributes := #[] }] 48 6 #[] #[{ accessFlags := 26, nameIndex := 61, descriptorIndex := 62, attributes := #[] }, { accessFlags := 26, nameIndex := 65, descriptorIndex := 62, attributes := #[] }, { accessFlags := 24, nameIndex := 430, descriptorIndex := 62, attributes := #[] }, { accessFlags := 4120, nameIndex := 46, descriptorIndex := 47, attributes := #[] }])
  fields := #[{ name := "HI_BYTE_SHIFT", type := .int, accessFlags := 26, slot := 0, constantValue := 0 }, { name := "LO_BYTE_SHIFT", type := .int, accessFlags := 26, slot := 1, constantValue := 0 }, { name := "MAX_LENGTH", type := .int, accessFlags := 24, slot := 2, constantValue := 0 }, { name := "$assertionsDisabled", type := .boolean, accessFlags := 4120, slot := 3, constantValue := 0 }]
  methods := #[k8m0, k8m1, k8m2, k8m3, k8m4, k8m5, k8m6, k8m7, k8m8, k8m9, k8m10, k8m11]
  instanceTypes := #[]
  staticTypes := #[.int, .int, .int, .boolean]
  resolved := Array.replicate 635 none
  statics := some 1 }

def pool9 : Array CpInfo := pool [(1, .methodref 2 3), (0, .class_ 4), (0, .nameAndType 5 6), (0, u "java/lang/Object"), (0, u "<init>"), (0, u "()V"), (0, .fieldref 8 9), (0, .class_ 10), (0, .nameAndType 11 12), (0, u "com/example/earnest_roster/earnestroster/ApiError"), (0, u "code"), (0, u "Ljava/lang/String;"), (0, .fieldref 8 14), (0, .nameAndType 15 12), (0, u "message"), (0, .string 17), (0, u "not_found"), (0, .class_ 19), (0, u "java/lang/StringBuilder"), (0, .methodref 18 3), (2, .methodref 18 24), (0, .nameAndType 25 26), (0, u "append"), (0, u "(Ljava/lang/String;)Ljava/lang/StringBuilder;"), (0, .methodref 18 28), (0, .nameAndType 29 30), (0, u "toString"), (0, u "()Ljava/lang/String;"), (0, .methodref 8 32), (0, .nameAndType 5 33), (0, u "(Ljava/lang/String;Ljava/lang/String;)V"), (0, .string 35), (0, u own_tx_57), (4, u "INVALID_OPTION"), (3, u "INVALID_BATCH"), (2, u "NOT_FOUND"), (3, u "(Ljava/lang/String;)Lcom/example/earnest_roster/earnestroster/ApiError;"), (0, u "noImportWithId"), (1, u "getCode"), (0, u "getMessage")] 2

def k9c0 : Code := { maxStack := 2, maxLocals := 3, code := prog_1_method_1_code, exceptionTable := #[], attributes := #[] }
def k9m0 : Method := { name := "<init>", desc := "(Ljava/lang/String;Ljava/lang/String;)V", sig := { parameters := [(.object "java/lang/String"), (.object "java/lang/String")], returnType := none }, accessFlags := 0, code := some k9c0 }
def k9c1 : Code := { maxStack := 5, maxLocals := 1, code := prog_1_method_3_code, exceptionTable := #[], attributes := #[] }
def k9m1 : Method := { name := "noImportWithId", desc := "(Ljava/lang/String;)Lcom/example/earnest_roster/earnestroster/ApiError;", sig := { parameters := [(.object "java/lang/String")], returnType := some (.object "com/example/earnest_roster/earnestroster/ApiError") }, accessFlags := 8, code := some k9c1 }
def k9c2 : Code := { maxStack := 1, maxLocals := 1, code := prog_1_method_5_code, exceptionTable := #[], attributes := #[] }
def k9m2 : Method := { name := "getCode", desc := "()Ljava/lang/String;", sig := { parameters := [], returnType := some (.object "java/lang/String") }, accessFlags := 0, code := some k9c2 }
def k9c3 : Code := { maxStack := 1, maxLocals := 1, code := prog_1_method_6_code, exceptionTable := #[], attributes := #[] }
def k9m3 : Method := { name := "getMessage", desc := "()Ljava/lang/String;", sig := { parameters := [], returnType := some (.object "java/lang/String") }, accessFlags := 0, code := some k9c3 }
/-- com/example/earnest_roster/earnestroster/ApiError -/
def k9 : Class := { plain "com/example/earnest_roster/earnestroster/ApiError" (some 0) with
  accessFlags := 32
  interfaces := #[]
  cf := some (fileOf pool9 8 #[] #[{ accessFlags := 0, nameIndex := 5, descriptorIndex := 33, attributes := #[] }, { accessFlags := 8, nameIndex := 52, descriptorIndex := 51, attributes := #[] }, { accessFlags := 0, nameIndex := 54, descriptorIndex := 30, attributes := #[] }, { accessFlags := 0, nameIndex := 55, descriptorIndex := 30, attributes := #[] }] 32 2 #[] #[{ accessFlags := 24, nameIndex := 40, descriptorIndex := 12, attributes := #[] }, { accessFlags := 24, nameIndex := 44, descriptorIndex := 12, attributes := #[] }, { accessFlags := 24, nameIndex := 47, descriptorIndex := 12, attributes := #[] }, { accessFlags := 18, nameIndex := 11, descriptorIndex := 12, attributes := #[] }, { accessFlags := 18, nameIndex := 15, descriptorIndex := 12, attributes := #[] }])
  fields := #[{ name := "INVALID_OPTION", type := (.object "java/lang/String"), accessFlags := 24, slot := 0, constantValue := 0 }, { name := "INVALID_BATCH", type := (.object "java/lang/String"), accessFlags := 24, slot := 1, constantValue := 0 }, { name := "NOT_FOUND", type := (.object "java/lang/String"), accessFlags := 24, slot := 2, constantValue := 0 }, { name := "code", type := (.object "java/lang/String"), accessFlags := 18, slot := 0, constantValue := 0 }, { name := "message", type := (.object "java/lang/String"), accessFlags := 18, slot := 1, constantValue := 0 }]
  methods := #[k9m0, k9m1, k9m2, k9m3]
  instanceTypes := #[(.object "java/lang/String"), (.object "java/lang/String")]
  staticTypes := #[(.object "java/lang/String"), (.object "java/lang/String"), (.object "java/lang/String")]
  resolved := Array.replicate 58 none
  statics := none }

def pool10 : Array CpInfo := pool [(1, .class_ 2), (0, u "java/lang/Appendable"), (0, .class_ 4), (0, u "java/lang/Object")] 9

/-- java/lang/Appendable -/
def k10 : Class := { plain "java/lang/Appendable" (some 0) with
  accessFlags := 1537
  interfaces := #[]
  cf := some (fileOf pool10 1 #[] #[] 1537 3 #[] #[])
  fields := #[]
  methods := #[]
  instanceTypes := #[]
  staticTypes := #[]
  resolved := Array.replicate 14 none
  statics := none }

def pool11 : Array CpInfo := pool [(1, .class_ 2), (0, u "java/lang/String"), (0, .methodref 4 5), (0, .class_ 6), (0, .nameAndType 7 8), (0, u "java/lang/Object"), (0, u "<init>"), (0, u "()V"), (1, .class_ 12), (1, u "java/lang/AbstractStringBuilder"), (0, u "EMPTYVALUE"), (0, u "[B"), (0, .fieldref 10 16), (0, .nameAndType 17 14), (0, u "value"), (0, .fieldref 1 19), (0, .nameAndType 20 21), (0, u "COMPACT_STRINGS"), (0, u "Z"), (0, .fieldref 10 23), (0, .nameAndType 24 25), (0, u "coder"), (0, u "B"), (0, .methodref 27 28), (0, .class_ 29), (0, .nameAndType 30 31), (0, u "java/lang/StringUTF16"), (0, u "newBytesFor"), (0, u "(I)[B"), (0, .methodref 1 33), (0, .nameAndType 34 35), (0, u "length"), (0, u "()I"), (3, .integer 2147483647), (0, .methodref 1 41), (0, .nameAndType 24 42), (0, u "()B"), (2, u "append"), (0, u "(Ljava/lang/String;)Ljava/lang/AbstractStringBuilder;"), (1, .class_ 49), (0, u "java/lang/CharSequence"), (19, u "(Ljava/lang/String;)V"), (5, u "maybeLatin1"), (3, .fieldref 10 80), (0, .nameAndType 81 82), (0, u "count"), (0, u "I"), (0, .methodref 10 84), (0, .nameAndType 85 86), (0, u "isLatin1"), (0, u "()Z"), (1, .class_ 90), (1, u "java/lang/StringLatin1"), (9, .methodref 10 101), (0, .nameAndType 102 103), (0, u "ensureCapacityInternal"), (0, u "(I)V"), (0, .methodref 10 105), (0, .nameAndType 106 107), (0, u "newCapacity"), (0, u "(I)I"), (0, .methodref 109 110), (0, .class_ 111), (0, .nameAndType 112 113), (0, u "java/util/Arrays"), (0, u "copyOf"), (0, u "([BI)[B"), (0, .methodref 115 116), (0, .class_ 117), (0, .nameAndType 118 119), (0, u "jdk/internal/util/ArraysSupport"), (0, u "newLength"), (0, u "(III)I"), (5, .methodref 88 126), (0, .nameAndType 127 128), (0, u "inflate"), (0, u "([BI[BII)V"), (66, .methodref 10 196), (0, .nameAndType 127 8), (11, .methodref 10 209), (0, .nameAndType 210 211), (0, u "putStringAt"), (0, u "(ILjava/lang/String;)V"), (5, u "inflateIfNeededFor"), (2, .nameAndType 221 222), (0, u "getBytes"), (0, u "([BIB)V"), (174, .methodref 10 398), (0, .nameAndType 217 69), (0, .methodref 1 220), (3, u "()[B"), (40, .class_ 445), (0, u "java/lang/Appendable"), (106, u "getValue")] 56

def k11m0 : Method := { name := "<init>", desc := "()V", sig := { parameters := [], returnType := none }, accessFlags := 0, code := none }
def k11c1 : Code := { maxStack := 2, maxLocals := 2, code := jdk_68_method_2_code, exceptionTable := #[], attributes := #[] }
def k11m1 : Method := { name := "<init>", desc := "(I)V", sig := { parameters := [.int], returnType := none }, accessFlags := 0, code := some k11c1 }
def k11c2 : Code := { maxStack := 1, maxLocals := 1, code := jdk_68_method_6_code, exceptionTable := #[], attributes := #[] }
def k11m2 : Method := { name := "length", desc := "()I", sig := { parameters := [], returnType := some .int }, accessFlags := 1, code := some k11c2 }
def k11c3 : Code := { maxStack := 4, maxLocals := 3, code := jdk_68_method_9_code, exceptionTable := #[], attributes := #[] }
def k11m3 : Method := { name := "ensureCapacityInternal", desc := "(I)V", sig := { parameters := [.int], returnType := none }, accessFlags := 2, code := some k11c3 }
def k11c4 : Code := { maxStack := 5, maxLocals := 6, code := jdk_68_method_10_code, exceptionTable := #[], attributes := #[] }
def k11m4 : Method := { name := "newCapacity", desc := "(I)I", sig := { parameters := [.int], returnType := some .int }, accessFlags := 2, code := some k11c4 }
def k11c5 : Code := { maxStack := 5, maxLocals := 2, code := jdk_68_method_11_code, exceptionTable := #[], attributes := #[] }
def k11m5 : Method := { name := "inflate", desc := "()V", sig := { parameters := [], returnType := none }, accessFlags := 2, code := some k11c5 }
def k11c6 : Code := { maxStack := 3, maxLocals := 3, code := jdk_68_method_22_code, exceptionTable := #[], attributes := #[] }
def k11m6 : Method := { name := "append", desc := "(Ljava/lang/String;)Ljava/lang/AbstractStringBuilder;", sig := { parameters := [(.object "java/lang/String")], returnType := some (.object "java/lang/AbstractStringBuilder") }, accessFlags := 1, code := some k11c6 }
def k11c7 : Code := { maxStack := 1, maxLocals := 1, code := jdk_68_method_64_code, exceptionTable := #[], attributes := #[] }
def k11m7 : Method := { name := "getValue", desc := "()[B", sig := { parameters := [], returnType := some (.array .byte) }, accessFlags := 16, code := some k11c7 }
def k11c8 : Code := { maxStack := 1, maxLocals := 1, code := jdk_68_method_68_code, exceptionTable := #[], attributes := #[] }
def k11m8 : Method := { name := "isLatin1", desc := "()Z", sig := { parameters := [], returnType := some .boolean }, accessFlags := 16, code := some k11c8 }
def k11c9 : Code := { maxStack := 2, maxLocals := 2, code := jdk_68_method_71_code, exceptionTable := #[], attributes := #[] }
def k11m9 : Method := { name := "inflateIfNeededFor", desc := "(Ljava/lang/String;)V", sig := { parameters := [(.object "java/lang/String")], returnType := none }, accessFlags := 2, code := some k11c9 }
def k11c10 : Code := { maxStack := 4, maxLocals := 3, code := jdk_68_method_73_code, exceptionTable := #[], attributes := #[] }
def k11m10 : Method := { name := "putStringAt", desc := "(ILjava/lang/String;)V", sig := { parameters := [.int, (.object "java/lang/String")], returnType := none }, accessFlags := 2, code := some k11c10 }
/-- java/lang/AbstractStringBuilder -/
def k11 : Class := { plain "java/lang/AbstractStringBuilder" (some 0) with
  accessFlags := 1056
  interfaces := #[10, 4]
  cf := some (fileOf pool11 10 #[] #[{ accessFlags := 0, nameIndex := 7, descriptorIndex := 8, attributes := #[] }, { accessFlags := 0, nameIndex := 7, descriptorIndex := 103, attributes := #[] }, { accessFlags := 1, nameIndex := 34, descriptorIndex := 35, attributes := #[] }, { accessFlags := 2, nameIndex := 102, descriptorIndex := 103, attributes := #[] }, { accessFlags := 2, nameIndex := 106, descriptorIndex := 107, attributes := #[] }, { accessFlags := 2, nameIndex := 127, descriptorIndex := 8, attributes := #[] }, { accessFlags := 1, nameIndex := 45, descriptorIndex := 46, attributes := #[] }, { accessFlags := 16, nameIndex := 552, descriptorIndex := 403, attributes := #[] }, { accessFlags := 16, nameIndex := 85, descriptorIndex := 86, attributes := #[] }, { accessFlags := 2, nameIndex := 217, descriptorIndex := 69, attributes := #[] }, { accessFlags := 2, nameIndex := 210, descriptorIndex := 211, attributes := #[] }] 1056 4 #[444, 48] #[{ accessFlags := 0, nameIndex := 17, descriptorIndex := 14, attributes := #[] }, { accessFlags := 0, nameIndex := 24, descriptorIndex := 25, attributes := #[] }, { accessFlags := 0, nameIndex := 75, descriptorIndex := 21, attributes := #[] }, { accessFlags := 0, nameIndex := 81, descriptorIndex := 82, attributes := #[] }, { accessFlags := 26, nameIndex := 13, descriptorIndex := 14, attributes := #[] }])
  fields := #[{ name := "value", type := (.array .byte), accessFlags := 0, slot := 0, constantValue := 0 }, { name := "coder", type := .byte, accessFlags := 0, slot := 1, constantValue := 0 }, { name := "maybeLatin1", type := .boolean, accessFlags := 0, slot := 2, constantValue := 0 }, { name := "count", type := .int, accessFlags := 0, slot := 3, constantValue := 0 }, { name := "EMPTYVALUE", type := (.array .byte), accessFlags := 26, slot := 0, constantValue := 0 }]
  methods := #[k11m0, k11m1, k11m2, k11m3, k11m4, k11m5, k11m6, k11m7, k11m8, k11m9, k11m10]
  instanceTypes := #[(.array .byte), .byte, .boolean, .int]
  staticTypes := #[(.array .byte)]
  resolved := Array.replicate 609 none
  statics := none }

def pool12 : Array CpInfo := pool [(1, .methodref 2 3), (0, .class_ 4), (0, .nameAndType 5 6), (0, u "java/lang/AbstractStringBuilder"), (0, u "<init>"), (0, u "(I)V"), (11, .class_ 20), (1, u "java/lang/String"), (3, .class_ 26), (1, u "java/lang/StringBuilder"), (0, u "append"), (0, u "(Ljava/lang/String;)Ljava/lang/StringBuilder;"), (0, .methodref 2 30), (0, .nameAndType 27 31), (0, u "(Ljava/lang/String;)Ljava/lang/AbstractStringBuilder;"), (105, .methodref 18 138), (0, .nameAndType 5 139), (0, u "(Ljava/lang/StringBuilder;)V"), (5, u "()V"), (10, u "()I"), (186, .methodref 2 344), (0, .nameAndType 345 156), (0, u "length"), (3, .class_ 350), (0, u "java/lang/Appendable"), (0, .class_ 352), (0, u "java/io/Serializable"), (0, .class_ 354), (0, u "java/lang/Comparable"), (0, .class_ 356), (0, u "java/lang/CharSequence"), (0, u "serialVersionUID"), (0, u "J"), (40, u "toString"), (0, u "()Ljava/lang/String;")] 21

def k12c0 : Code := { maxStack := 2, maxLocals := 1, code := jdk_67_method_1_code, exceptionTable := #[], attributes := #[] }
def k12m0 : Method := { name := "<init>", desc := "()V", sig := { parameters := [], returnType := none }, accessFlags := 1, code := some k12c0 }
def k12c1 : Code := { maxStack := 2, maxLocals := 2, code := jdk_67_method_7_code, exceptionTable := #[], attributes := #[] }
def k12m1 : Method := { name := "append", desc := "(Ljava/lang/String;)Ljava/lang/StringBuilder;", sig := { parameters := [(.object "java/lang/String")], returnType := some (.object "java/lang/StringBuilder") }, accessFlags := 1, code := some k12c1 }
def k12c2 : Code := { maxStack := 3, maxLocals := 1, code := jdk_67_method_42_code, exceptionTable := #[], attributes := #[] }
def k12m2 : Method := { name := "toString", desc := "()Ljava/lang/String;", sig := { parameters := [], returnType := some (.object "java/lang/String") }, accessFlags := 1, code := some k12c2 }
def k12c3 : Code := { maxStack := 1, maxLocals := 1, code := jdk_67_method_93_code, exceptionTable := #[], attributes := #[] }
def k12m3 : Method := { name := "length", desc := "()I", sig := { parameters := [], returnType := some .int }, accessFlags := 4161, code := some k12c3 }
/-- java/lang/StringBuilder -/
def k12 : Class := { plain "java/lang/StringBuilder" (some 11) with
  accessFlags := 49
  interfaces := #[10, 2, 3, 4]
  cf := some (fileOf pool12 24 #[] #[{ accessFlags := 1, nameIndex := 5, descriptorIndex := 145, attributes := #[] }, { accessFlags := 1, nameIndex := 27, descriptorIndex := 28, attributes := #[] }, { accessFlags := 1, nameIndex := 399, descriptorIndex := 400, attributes := #[] }, { accessFlags := 4161, nameIndex := 345, descriptorIndex := 156, attributes := #[] }] 49 2 #[349, 351, 353, 355] #[{ accessFlags := 24, nameIndex := 357, descriptorIndex := 358, attributes := #[] }])
  fields := #[{ name := "serialVersionUID", type := .long, accessFlags := 24, slot := 0, constantValue := 0 }]
  methods := #[k12m0, k12m1, k12m2, k12m3]
  instanceTypes := #[(.array .byte), .byte, .boolean, .int]
  staticTypes := #[.long]
  resolved := Array.replicate 422 none
  statics := none }

def pool13 : Array CpInfo := pool [(9, u "<init>"), (6, .class_ 18), (1, u "java/lang/Object"), (0, u "()V"), (1, .class_ 23), (1, u "jdk/internal/util/ArraysSupport"), (0, u "LOG2_ARRAY_LONG_INDEX_SCALE"), (0, u "I"), (2, u "U"), (0, u "Ljdk/internal/misc/Unsafe;"), (8, u "BIG_ENDIAN"), (0, u "Z"), (8, u "LOG2_BYTE_BIT_SIZE"), (4, u "LOG2_ARRAY_INT_INDEX_SCALE"), (54, u "JLA"), (0, u "Ljdk/internal/access/JavaLangAccess;"), (11, u "LOG2_ARRAY_BOOLEAN_INDEX_SCALE"), (9, u "LOG2_ARRAY_BYTE_INDEX_SCALE"), (5, u "LOG2_ARRAY_CHAR_INDEX_SCALE"), (5, u "LOG2_ARRAY_SHORT_INDEX_SCALE"), (18, u "LOG2_ARRAY_FLOAT_INDEX_SCALE"), (24, u "LOG2_ARRAY_DOUBLE_INDEX_SCALE"), (6, .methodref 195 196), (0, .class_ 197), (0, .nameAndType 198 199), (0, u "java/lang/Math"), (0, u "max"), (0, u "(II)I"), (0, .integer 2147483639), (76, u "T_BOOLEAN"), (2, u "T_CHAR"), (1, u "T_FLOAT"), (1, u "T_DOUBLE"), (1, u "T_BYTE"), (1, u "T_SHORT"), (1, u "T_INT"), (1, u "T_LONG"), (1, u "SOFT_MAX_ARRAY_LENGTH"), (56, u "newLength"), (0, u "(III)I")] 25

def k13m0 : Method := { name := "<init>", desc := "()V", sig := { parameters := [], returnType := none }, accessFlags := 2, code := none }
def k13c1 : Code := { maxStack := 3, maxLocals := 4, code := jdk_48_method_27_code, exceptionTable := #[], attributes := #[] }
def k13m1 : Method := { name := "newLength", desc := "(III)I", sig := { parameters := [.int, .int, .int], returnType := some .int }, accessFlags := 9, code := some k13c1 }
/-- jdk/internal/util/ArraysSupport -/
def k13 : Class := { plain "jdk/internal/util/ArraysSupport" (some 0) with
  accessFlags := 33
  interfaces := #[]
  cf := some (fileOf pool13 21 #[] #[{ accessFlags := 2, nameIndex := 9, descriptorIndex := 19, attributes := #[] }, { accessFlags := 9, nameIndex := 351, descriptorIndex := 352, attributes := #[] }] 33 16 #[] #[{ accessFlags := 24, nameIndex := 28, descriptorIndex := 29, attributes := #[] }, { accessFlags := 26, nameIndex := 38, descriptorIndex := 39, attributes := #[] }, { accessFlags := 25, nameIndex := 121, descriptorIndex := 25, attributes := #[] }, { accessFlags := 25, nameIndex := 131, descriptorIndex := 25, attributes := #[] }, { accessFlags := 25, nameIndex := 137, descriptorIndex := 25, attributes := #[] }, { accessFlags := 25, nameIndex := 143, descriptorIndex := 25, attributes := #[] }, { accessFlags := 25, nameIndex := 53, descriptorIndex := 25, attributes := #[] }, { accessFlags := 25, nameIndex := 24, descriptorIndex := 25, attributes := #[] }, { accessFlags := 25, nameIndex := 162, descriptorIndex := 25, attributes := #[] }, { accessFlags := 25, nameIndex := 187, descriptorIndex := 25, attributes := #[] }, { accessFlags := 26, nameIndex := 48, descriptorIndex := 25, attributes := #[] }, { accessFlags := 25, nameIndex := 277, descriptorIndex := 25, attributes := #[] }, { accessFlags := 25, nameIndex := 280, descriptorIndex := 25, attributes := #[] }, { accessFlags := 25, nameIndex := 282, descriptorIndex := 25, attributes := #[] }, { accessFlags := 25, nameIndex := 284, descriptorIndex := 25, attributes := #[] }, { accessFlags := 25, nameIndex := 286, descriptorIndex := 25, attributes := #[] }, { accessFlags := 25, nameIndex := 288, descriptorIndex := 25, attributes := #[] }, { accessFlags := 25, nameIndex := 290, descriptorIndex := 25, attributes := #[] }, { accessFlags := 25, nameIndex := 292, descriptorIndex := 25, attributes := #[] }, { accessFlags := 26, nameIndex := 108, descriptorIndex := 109, attributes := #[] }, { accessFlags := 25, nameIndex := 294, descriptorIndex := 25, attributes := #[] }])
  fields := #[{ name := "U", type := (.object "jdk/internal/misc/Unsafe"), accessFlags := 24, slot := 0, constantValue := 0 }, { name := "BIG_ENDIAN", type := .boolean, accessFlags := 26, slot := 1, constantValue := 0 }, { name := "LOG2_ARRAY_BOOLEAN_INDEX_SCALE", type := .int, accessFlags := 25, slot := 2, constantValue := 0 }, { name := "LOG2_ARRAY_BYTE_INDEX_SCALE", type := .int, accessFlags := 25, slot := 3, constantValue := 0 }, { name := "LOG2_ARRAY_CHAR_INDEX_SCALE", type := .int, accessFlags := 25, slot := 4, constantValue := 0 }, { name := "LOG2_ARRAY_SHORT_INDEX_SCALE", type := .int, accessFlags := 25, slot := 5, constantValue := 0 }, { name := "LOG2_ARRAY_INT_INDEX_SCALE", type := .int, accessFlags := 25, slot := 6, constantValue := 0 }, { name := "LOG2_ARRAY_LONG_INDEX_SCALE", type := .int, accessFlags := 25, slot := 7, constantValue := 0 }, { name := "LOG2_ARRAY_FLOAT_INDEX_SCALE", type := .int, accessFlags := 25, slot := 8, constantValue := 0 }, { name := "LOG2_ARRAY_DOUBLE_INDEX_SCALE", type := .int, accessFlags := 25, slot := 9, constantValue := 0 }, { name := "LOG2_BYTE_BIT_SIZE", type := .int, accessFlags := 26, slot := 10, constantValue := 0 }, { name := "T_BOOLEAN", type := .int, accessFlags := 25, slot := 11, constantValue := 0 }, { name := "T_CHAR", type := .int, accessFlags := 25, slot := 12, constantValue := 0 }, { name := "T_FLOAT", type := .int, accessFlags := 25, slot := 13, constantValue := 0 }, { name := "T_DOUBLE", type := .int, accessFlags := 25, slot := 14, constantValue := 0 }, { name := "T_BYTE", type := .int, accessFlags := 25, slot := 15, constantValue := 0 }, { name := "T_SHORT", type := .int, accessFlags := 25, slot := 16, constantValue := 0 }, { name := "T_INT", type := .int, accessFlags := 25, slot := 17, constantValue := 0 }, { name := "T_LONG", type := .int, accessFlags := 25, slot := 18, constantValue := 0 }, { name := "JLA", type := (.object "jdk/internal/access/JavaLangAccess"), accessFlags := 26, slot := 19, constantValue := 0 }, { name := "SOFT_MAX_ARRAY_LENGTH", type := .int, accessFlags := 25, slot := 20, constantValue := 0 }]
  methods := #[k13m0, k13m1]
  instanceTypes := #[]
  staticTypes := #[(.object "jdk/internal/misc/Unsafe"), .boolean, .int, .int, .int, .int, .int, .int, .int, .int, .int, .int, .int, .int, .int, .int, .int, .int, .int, (.object "jdk/internal/access/JavaLangAccess"), .int]
  resolved := Array.replicate 378 none
  statics := none }

def pool14 : Array CpInfo := pool [(1, .class_ 2), (0, u "java/lang/Math"), (1, .class_ 6), (1, u "java/lang/Object"), (0, u "<init>"), (0, u "()V"), (89, .class_ 100), (1, u "java/lang/Math$RandomNumberGeneratorHolder"), (71, u "negativeZeroFloatBits"), (0, u "J"), (2, u "negativeZeroDoubleBits"), (21, u "max"), (2, u "min"), (43, u "$assertionsDisabled"), (0, u "Z"), (88, u "(II)I"), (2, u "twoToTheDoubleScaleDown"), (0, u "D"), (4, u "twoToTheDoubleScaleUp"), (9, u "E"), (3, u "PI"), (2, u "TAU"), (2, u "DEGREES_TO_RADIANS"), (0, u "RADIANS_TO_DEGREES")] 94

def k14m0 : Method := { name := "<init>", desc := "()V", sig := { parameters := [], returnType := none }, accessFlags := 2, code := none }
def k14c1 : Code := { maxStack := 2, maxLocals := 2, code := jdk_29_method_65_code, exceptionTable := #[], attributes := #[] }
def k14m1 : Method := { name := "max", desc := "(II)I", sig := { parameters := [.int, .int], returnType := some .int }, accessFlags := 9, code := some k14c1 }
def k14c2 : Code := { maxStack := 2, maxLocals := 2, code := jdk_29_method_69_code, exceptionTable := #[], attributes := #[] }
def k14m2 : Method := { name := "min", desc := "(II)I", sig := { parameters := [.int, .int], returnType := some .int }, accessFlags := 9, code := some k14c2 }
/-- java/lang/Math -/
def k14 : Class := { plain "java/lang/Math" (some 0) with
  accessFlags := 49
  interfaces := #[]
  cf := some (fileOf pool14 1 #[.nestMembers #[98]] #[{ accessFlags := 2, nameIndex := 7, descriptorIndex := 8, attributes := #[] }, { accessFlags := 9, nameIndex := 198, descriptorIndex := 335, attributes := #[] }, { accessFlags := 9, nameIndex := 201, descriptorIndex := 335, attributes := #[] }] 49 4 #[] #[{ accessFlags := 25, nameIndex := 354, descriptorIndex := 339, attributes := #[] }, { accessFlags := 25, nameIndex := 358, descriptorIndex := 339, attributes := #[] }, { accessFlags := 25, nameIndex := 361, descriptorIndex := 339, attributes := #[] }, { accessFlags := 26, nameIndex := 364, descriptorIndex := 339, attributes := #[] }, { accessFlags := 26, nameIndex := 365, descriptorIndex := 339, attributes := #[] }, { accessFlags := 26, nameIndex := 172, descriptorIndex := 173, attributes := #[] }, { accessFlags := 26, nameIndex := 176, descriptorIndex := 173, attributes := #[] }, { accessFlags := 8, nameIndex := 344, descriptorIndex := 339, attributes := #[] }, { accessFlags := 8, nameIndex := 338, descriptorIndex := 339, attributes := #[] }, { accessFlags := 4120, nameIndex := 245, descriptorIndex := 246, attributes := #[] }])
  fields := #[{ name := "E", type := .double, accessFlags := 25, slot := 0, constantValue := 0 }, { name := "PI", type := .double, accessFlags := 25, slot := 1, constantValue := 0 }, { name := "TAU", type := .double, accessFlags := 25, slot := 2, constantValue := 0 }, { name := "DEGREES_TO_RADIANS", type := .double, accessFlags := 26, slot := 3, constantValue := 0 }, { name := "RADIANS_TO_DEGREES", type := .double, accessFlags := 26, slot := 4, constantValue := 0 }, { name := "negativeZeroFloatBits", type := .long, accessFlags := 26, slot := 5, constantValue := 0 }, { name := "negativeZeroDoubleBits", type := .long, accessFlags := 26, slot := 6, constantValue := 0 }, { name := "twoToTheDoubleScaleUp", type := .double, accessFlags := 8, slot := 7, constantValue := 0 }, { name := "twoToTheDoubleScaleDown", type := .double, accessFlags := 8, slot := 8, constantValue := 0 }, { name := "$assertionsDisabled", type := .boolean, accessFlags := 4120, slot := 9, constantValue := 0 }]
  methods := #[k14m0, k14m1, k14m2]
  instanceTypes := #[]
  staticTypes := #[.double, .double, .double, .double, .double, .long, .long, .double, .double, .boolean]
  resolved := Array.replicate 460 none
  statics := none }

def pool15 : Array CpInfo := pool [(2, .class_ 4), (1, u "java/lang/Object"), (0, u "<init>"), (0, u "()V"), (7, .class_ 16), (1, u "java/util/Arrays"), (57, .class_ 76), (1, u "java/util/Arrays$NaturalOrder"), (32, u "()Ljava/lang/Object;"), (3, .class_ 115), (1, u "java/util/Arrays$LegacyMergeSort"), (1, u "Z"), (10, .nameAndType 129 109), (0, u "clone"), (9, u "copyOfRange"), (10, .methodref 151 152), (0, .class_ 153), (0, .nameAndType 154 155), (0, u "java/lang/System"), (0, u "arraycopy"), (0, u "(Ljava/lang/Object;ILjava/lang/Object;II)V"), (146, u "copyOf"), (1, .methodref 305 306), (0, .class_ 307), (0, .nameAndType 308 309), (0, u "java/lang/Math"), (0, u "min"), (0, u "(II)I"), (0, .methodref 311 128), (0, .class_ 312), (0, u "[B"), (26, .methodref 14 340), (0, .nameAndType 341 342), (0, u "copyOfRangeByte"), (0, u "([BII)[B"), (0, .methodref 14 344), (0, .nameAndType 345 346), (0, u "checkLength"), (0, u "(II)V"), (28, .class_ 376), (0, u "java/util/Arrays$ArrayList"), (68, u "$assertionsDisabled"), (269, u "MIN_ARRAY_SORT_GRAN"), (0, u "I"), (2, u "INSERTIONSORT_THRESHOLD"), (149, u "([BI)[B"), (105, .class_ 976), (0, u "java/util/Arrays$ArrayItr")] 52

def k15m0 : Method := { name := "<init>", desc := "()V", sig := { parameters := [], returnType := none }, accessFlags := 2, code := none }
def k15c1 : Code := { maxStack := 6, maxLocals := 3, code := jdk_65_method_121_code, exceptionTable := #[], attributes := #[] }
def k15m1 : Method := { name := "copyOf", desc := "([BI)[B", sig := { parameters := [(.array .byte), .int], returnType := some (.array .byte) }, accessFlags := 9, code := some k15c1 }
def k15c2 : Code := { maxStack := 4, maxLocals := 2, code := jdk_65_method_131_code, exceptionTable := #[], attributes := #[] }
def k15m2 : Method := { name := "checkLength", desc := "(II)V", sig := { parameters := [.int, .int], returnType := none }, accessFlags := 10, code := some k15c2 }
def k15c3 : Code := { maxStack := 3, maxLocals := 3, code := jdk_65_method_132_code, exceptionTable := #[], attributes := #[] }
def k15m3 : Method := { name := "copyOfRange", desc := "([BII)[B", sig := { parameters := [(.array .byte), .int, .int], returnType := some (.array .byte) }, accessFlags := 9, code := some k15c3 }
def k15c4 : Code := { maxStack := 6, maxLocals := 5, code := jdk_65_method_133_code, exceptionTable := #[], attributes := #[] }
def k15m4 : Method := { name := "copyOfRangeByte", desc := "([BII)[B", sig := { parameters := [(.array .byte), .int, .int], returnType := some (.array .byte) }, accessFlags := 10, code := some k15c4 }
/-- java/util/Arrays -/
def k15 : Class := { plain "java/util/Arrays" (some 0) with
  accessFlags := 49
  interfaces := #[]
  cf := some (fileOf pool15 14 #[.nestMembers #[975, 375, 113, 74]] #[{ accessFlags := 2, nameIndex := 5, descriptorIndex := 6, attributes := #[] }, { accessFlags := 9, nameIndex := 302, descriptorIndex := 869, attributes := #[] }, { accessFlags := 10, nameIndex := 345, descriptorIndex := 346, attributes := #[] }, { accessFlags := 9, nameIndex := 139, descriptorIndex := 342, attributes := #[] }, { accessFlags := 10, nameIndex := 341, descriptorIndex := 342, attributes := #[] }] 49 2 #[] #[{ accessFlags := 26, nameIndex := 715, descriptorIndex := 716, attributes := #[] }, { accessFlags := 26, nameIndex := 719, descriptorIndex := 716, attributes := #[] }, { accessFlags := 4120, nameIndex := 445, descriptorIndex := 117, attributes := #[] }])
  fields := #[{ name := "MIN_ARRAY_SORT_GRAN", type := .int, accessFlags := 26, slot := 0, constantValue := 0 }, { name := "INSERTIONSORT_THRESHOLD", type := .int, accessFlags := 26, slot := 1, constantValue := 0 }, { name := "$assertionsDisabled", type := .boolean, accessFlags := 4120, slot := 2, constantValue := 0 }]
  methods := #[k15m0, k15m1, k15m2, k15m3, k15m4]
  instanceTypes := #[]
  staticTypes := #[.int, .int, .boolean]
  resolved := Array.replicate 1029 none
  statics := none }

def pool16 : Array CpInfo := pool [(2, .class_ 4), (1, u "java/lang/Object"), (0, u "<init>"), (0, u "()V"), (1, .class_ 10), (1, u "java/lang/System"), (0, u "allowSecurityManager"), (0, u "I"), (16, u "cons"), (0, u "Ljava/io/Console;"), (77, .class_ 110), (1, u "java/lang/System$CallersHolder"), (43, u "initialErrStream"), (0, u "Ljava/io/PrintStream;"), (19, u "security"), (0, u "Ljava/lang/SecurityManager;"), (31, .class_ 209), (0, u "java/lang/System$1"), (7, u "props"), (0, u "Ljava/util/Properties;"), (2, u "lineSeparator"), (0, u "Ljava/lang/String;"), (96, .class_ 321), (1, u "java/lang/System$LoggerFinder"), (5, .class_ 328), (0, u "java/lang/System$Logger"), (67, u "err"), (2, u "out"), (91, u "notSupportedJnuEncoding"), (15, u "in"), (17, u "initialIn"), (0, u "Ljava/io/InputStream;"), (35, u "bootLayer"), (0, u "Ljava/lang/ModuleLayer;"), (99, .class_ 664), (0, u "java/lang/System$2"), (9, u "NEVER"), (2, u "MAYBE"), (49, u "arraycopy"), (0, u "(Ljava/lang/Object;ILjava/lang/Object;II)V"), (72, .class_ 802), (0, u "java/lang/System$Logger$Level")] 31

def k16m0 : Method := { name := "<init>", desc := "()V", sig := { parameters := [], returnType := none }, accessFlags := 2, code := none }
def k16m1 : Method := { name := "arraycopy", desc := "(Ljava/lang/Object;ILjava/lang/Object;II)V", sig := { parameters := [(.object "java/lang/Object"), .int, (.object "java/lang/Object"), .int, .int], returnType := none }, accessFlags := 265, code := none }
/-- java/lang/System -/
def k16 : Class := { plain "java/lang/System" (some 0) with
  accessFlags := 49
  interfaces := #[]
  cf := some (fileOf pool16 8 #[.nestMembers #[319, 327, 801, 108, 663, 208]] #[{ accessFlags := 2, nameIndex := 5, descriptorIndex := 6, attributes := #[] }, { accessFlags := 265, nameIndex := 727, descriptorIndex := 728, attributes := #[] }] 49 2 #[] #[{ accessFlags := 25, nameIndex := 507, descriptorIndex := 526, attributes := #[] }, { accessFlags := 25, nameIndex := 399, descriptorIndex := 155, attributes := #[] }, { accessFlags := 25, nameIndex := 396, descriptorIndex := 155, attributes := #[] }, { accessFlags := 10, nameIndex := 525, descriptorIndex := 526, attributes := #[] }, { accessFlags := 26, nameIndex := 674, descriptorIndex := 12, attributes := #[] }, { accessFlags := 26, nameIndex := 677, descriptorIndex := 12, attributes := #[] }, { accessFlags := 10, nameIndex := 11, descriptorIndex := 12, attributes := #[] }, { accessFlags := 74, nameIndex := 175, descriptorIndex := 176, attributes := #[] }, { accessFlags := 10, nameIndex := 491, descriptorIndex := 222, attributes := #[] }, { accessFlags := 74, nameIndex := 29, descriptorIndex := 30, attributes := #[] }, { accessFlags := 74, nameIndex := 154, descriptorIndex := 155, attributes := #[] }, { accessFlags := 10, nameIndex := 217, descriptorIndex := 218, attributes := #[] }, { accessFlags := 10, nameIndex := 221, descriptorIndex := 222, attributes := #[] }, { accessFlags := 8, nameIndex := 562, descriptorIndex := 563, attributes := #[] }])
  fields := #[{ name := "in", type := (.object "java/io/InputStream"), accessFlags := 25, slot := 0, constantValue := 0 }, { name := "out", type := (.object "java/io/PrintStream"), accessFlags := 25, slot := 1, constantValue := 0 }, { name := "err", type := (.object "java/io/PrintStream"), accessFlags := 25, slot := 2, constantValue := 0 }, { name := "initialIn", type := (.object "java/io/InputStream"), accessFlags := 10, slot := 3, constantValue := 0 }, { name := "NEVER", type := .int, accessFlags := 26, slot := 4, constantValue := 0 }, { name := "MAYBE", type := .int, accessFlags := 26, slot := 5, constantValue := 0 }, { name := "allowSecurityManager", type := .int, accessFlags := 10, slot := 6, constantValue := 0 }, { name := "security", type := (.object "java/lang/SecurityManager"), accessFlags := 74, slot := 7, constantValue := 0 }, { name := "notSupportedJnuEncoding", type := (.object "java/lang/String"), accessFlags := 10, slot := 8, constantValue := 0 }, { name := "cons", type := (.object "java/io/Console"), accessFlags := 74, slot := 9, constantValue := 0 }, { name := "initialErrStream", type := (.object "java/io/PrintStream"), accessFlags := 74, slot := 10, constantValue := 0 }, { name := "props", type := (.object "java/util/Properties"), accessFlags := 10, slot := 11, constantValue := 0 }, { name := "lineSeparator", type := (.object "java/lang/String"), accessFlags := 10, slot := 12, constantValue := 0 }, { name := "bootLayer", type := (.object "java/lang/ModuleLayer"), accessFlags := 8, slot := 13, constantValue := 0 }]
  methods := #[k16m0, k16m1]
  instanceTypes := #[]
  staticTypes := #[(.object "java/io/InputStream"), (.object "java/io/PrintStream"), (.object "java/io/PrintStream"), (.object "java/io/InputStream"), .int, .int, .int, (.object "java/lang/SecurityManager"), (.object "java/lang/String"), (.object "java/io/Console"), (.object "java/io/PrintStream"), (.object "java/util/Properties"), (.object "java/lang/String"), (.object "java/lang/ModuleLayer")]
  resolved := Array.replicate 834 none
  statics := none }

def pool17 : Array CpInfo := pool [(1, .class_ 2), (0, u "java/lang/Cloneable"), (0, .class_ 4), (0, u "java/lang/Object")] 2

/-- java/lang/Cloneable -/
def k17 : Class := { plain "java/lang/Cloneable" (some 0) with
  accessFlags := 1537
  interfaces := #[]
  cf := some (fileOf pool17 1 #[] #[] 1537 3 #[] #[])
  fields := #[]
  methods := #[]
  instanceTypes := #[]
  staticTypes := #[]
  resolved := Array.replicate 7 none
  statics := none }

def pool18 : Array CpInfo := pool [(4, .class_ 6), (1, u "java/lang/Object"), (0, u "<init>"), (0, u "()V"), (5, .class_ 16), (1, u "java/lang/StringLatin1"), (0, u "inflate"), (2, .class_ 22), (1, u "java/lang/StringUTF16"), (3, .nameAndType 17 27), (0, u "([BI[BII)V"), (93, u "$assertionsDisabled"), (0, u "Z"), (98, .class_ 223), (1, u "java/lang/StringLatin1$LinesSpliterator"), (16, .methodref 20 26), (40, u "equals"), (0, u "([B[B)Z"), (107, .class_ 391), (0, u "java/lang/StringLatin1$CharsSpliterator")] 3

def k18m0 : Method := { name := "<init>", desc := "()V", sig := { parameters := [], returnType := none }, accessFlags := 0, code := none }
def k18c1 : Code := { maxStack := 3, maxLocals := 3, code := jdk_43_method_13_code, exceptionTable := #[], attributes := #[] }
def k18m1 : Method := { name := "equals", desc := "([B[B)Z", sig := { parameters := [(.array .byte), (.array .byte)], returnType := some .boolean }, accessFlags := 9, code := some k18c1 }
def k18c2 : Code := { maxStack := 5, maxLocals := 5, code := jdk_43_method_50_code, exceptionTable := #[], attributes := #[] }
def k18m2 : Method := { name := "inflate", desc := "([BI[BII)V", sig := { parameters := [(.array .byte), .int, (.array .byte), .int, .int], returnType := none }, accessFlags := 9, code := some k18c2 }
/-- java/lang/StringLatin1 -/
def k18 : Class := { plain "java/lang/StringLatin1" (some 0) with
  accessFlags := 48
  interfaces := #[]
  cf := some (fileOf pool18 14 #[.nestMembers #[390, 221]] #[{ accessFlags := 0, nameIndex := 7, descriptorIndex := 8, attributes := #[] }, { accessFlags := 9, nameIndex := 281, descriptorIndex := 282, attributes := #[] }, { accessFlags := 9, nameIndex := 17, descriptorIndex := 27, attributes := #[] }] 48 4 #[] #[{ accessFlags := 4120, nameIndex := 121, descriptorIndex := 122, attributes := #[] }])
  fields := #[{ name := "$assertionsDisabled", type := .boolean, accessFlags := 4120, slot := 0, constantValue := 0 }]
  methods := #[k18m0, k18m1, k18m2]
  instanceTypes := #[]
  staticTypes := #[.boolean]
  resolved := Array.replicate 395 none
  statics := none }

def pool19 : Array CpInfo := pool [(2, .class_ 4), (1, u "java/lang/Object"), (0, u "<init>"), (0, u "()V"), (17, .class_ 26), (1, u "jdk/internal/util/Preconditions"), (22, u "checkFromIndexSize"), (5, .class_ 56), (0, u "jdk/internal/util/Preconditions$4"), (57, .class_ 115), (0, u "jdk/internal/util/Preconditions$1"), (7, u "SIOOBE_FORMATTER"), (0, u "Ljava/util/function/BiFunction;"), (0, .class_ 126), (0, u "jdk/internal/util/Preconditions$2"), (3, u "AIOOBE_FORMATTER"), (0, .class_ 132), (0, u "jdk/internal/util/Preconditions$3"), (3, u "IOOBE_FORMATTER"), (46, u "(IIILjava/util/function/BiFunction;)I")] 10

def k19m0 : Method := { name := "<init>", desc := "()V", sig := { parameters := [], returnType := none }, accessFlags := 1, code := none }
def k19c1 : Code := { maxStack := 4, maxLocals := 4, code := jdk_41_method_13_code, exceptionTable := #[], attributes := #[] }
def k19m1 : Method := { name := "checkFromIndexSize", desc := "(IIILjava/util/function/BiFunction;)I", sig := { parameters := [.int, .int, .int, (.object "java/util/function/BiFunction")], returnType := some .int }, accessFlags := 9, code := some k19c1 }
/-- jdk/internal/util/Preconditions -/
def k19 : Class := { plain "jdk/internal/util/Preconditions" (some 0) with
  accessFlags := 33
  interfaces := #[]
  cf := some (fileOf pool19 24 #[.nestMembers #[55, 131, 125, 114]] #[{ accessFlags := 1, nameIndex := 5, descriptorIndex := 6, attributes := #[] }, { accessFlags := 9, nameIndex := 49, descriptorIndex := 183, attributes := #[] }] 33 2 #[] #[{ accessFlags := 25, nameIndex := 123, descriptorIndex := 124, attributes := #[] }, { accessFlags := 25, nameIndex := 130, descriptorIndex := 124, attributes := #[] }, { accessFlags := 25, nameIndex := 136, descriptorIndex := 124, attributes := #[] }])
  fields := #[{ name := "SIOOBE_FORMATTER", type := (.object "java/util/function/BiFunction"), accessFlags := 25, slot := 0, constantValue := 0 }, { name := "AIOOBE_FORMATTER", type := (.object "java/util/function/BiFunction"), accessFlags := 25, slot := 1, constantValue := 0 }, { name := "IOOBE_FORMATTER", type := (.object "java/util/function/BiFunction"), accessFlags := 25, slot := 2, constantValue := 0 }]
  methods := #[k19m0, k19m1]
  instanceTypes := #[]
  staticTypes := #[(.object "java/util/function/BiFunction"), (.object "java/util/function/BiFunction"), (.object "java/util/function/BiFunction")]
  resolved := Array.replicate 194 none
  statics := some 2 }

/-- the primitive byte -/
def k20 : Class := { plain "byte" none with kind := .primitive 'B', accessFlags := 0x411 }
/-- [B -/
def k21 : Class := { plain "[B" (some 0) with kind := .array 20 .byte, interfaces := #[17, 2], accessFlags := 1041 }

/-- the primitive char -/
def k22 : Class := { plain "char" none with kind := .primitive 'C', accessFlags := 0x411 }
/-- [C -/
def k23 : Class := { plain "[C" (some 0) with kind := .array 22 .char, interfaces := #[17, 2], accessFlags := 1041 }

/-- the primitive int -/
def k24 : Class := { plain "int" none with kind := .primitive 'I', accessFlags := 0x411 }
/-- [I -/
def k25 : Class := { plain "[I" (some 0) with kind := .array 24 .int, interfaces := #[17, 2], accessFlags := 1041 }

def heap : Heap := #[{ cls := 7, slots := #[.long 0, .int 1, .null, .int 0, .null, .int 0, .int 0], vm := .statics 7 },
  { cls := 8, slots := #[.int 0, .int 8, .int 0, .int 1], vm := .statics 8 },
  { cls := 19, slots := #[.null, .null, .null], vm := .statics 19 }]
def classes : Array Class := #[k0, k1, k2, k3, k4, k5, k6, k7, k8, k9, k10, k11, k12, k13, k14, k15, k16, k17, k18, k19, k20, k21, k22, k23, k24, k25]
def interned : List (Array UInt16 × Addr) := []
def slotsUsed : Nat := 14
def theMethod : MethodId := ⟨1, 1⟩
def args0 : Array Value := #[.int 5, .int 7]
def aboutOver (below : List Frame) : State where
  vm := { classes := classes, interned := interned.toArray }
  heap := heap
  slotsUsed := slotsUsed
  threads := #[{ frames := .invoking theMethod args0 :: below }]
def below0 : List Frame := [.native { method := ⟨0, 0⟩, args := #[] }]
def about1 : State := aboutOver below0
def p0 : Program := .bare "" "" ""
def e0 : Env := launch0.env 0 0 0
theorem w_frames : about1.frames = Frame.invoking theMethod args0 :: below0 := rfl
set_option maxRecDepth 65536 in
theorem w_args : argsFit about1.vm theMethod args0 = true := by decide +kernel
set_option maxRecDepth 65536 in
theorem w_heap : heapFits about1 = true := by decide +kernel
set_option maxRecDepth 65536 in
theorem w_runnable : about1.curStatus? = some .runnable := by decide +kernel
set_option maxRecDepth 65536 in
theorem w_alone : about1.alone = true := by decide +kernel
set_option maxRecDepth 65536 in
theorem w_named : about1.methodNamed? x = some theMethod := by decide +kernel
set_option maxRecDepth 65536 in
theorem w_hears : about1.hears theMethod below0 = true := by decide +kernel
set_option maxRecDepth 65536 in
theorem w_ripe : about1.ripe theMethod args0 below0 = true := by decide +kernel
theorem w_running : about1.status = .running := rfl
set_option maxRecDepth 65536 in
theorem w_room : about1.hasRoom e0.platform room_1 = true :=
  launch0.hasRoom_least _ room_1 (by decide +kernel) (by decide +kernel) (by decide +kernel) (by decide +kernel) (by decide +kernel) (by decide +kernel)
theorem allAtoms_all (ts : List Jvm.Cond) (a : Array Jvm.Value) (st : Jvm.State) : (allAtoms ts).before a st = ts.all (fun c => c.before a st) := by
  induction ts with
  | nil => rfl
  | cons c t ih =>
    show (Jvm.Cond.and c (allAtoms t)).before a st = _
    rw [Jvm.Cond.before_and, ih, List.all_cons]
def words1 : List Jvm.Cond := Jvm.Cond.code x code maxLocals ret :: tables_1
/-- a 'code' word, met by the world's own term for the bytes: nothing is compared byte by byte -/
theorem code_word {y : MethodName} {bytes : ByteArray} {mx : Nat} {rt : Option FieldType} {a : Array Value} {s : State} {m : MethodId} {meth : Method} {c : Code} (h1 : s.methodNamed? y = some m) (h2 : s.vm.method? m = some meth) (h3 : meth.code = some c) (h4 : c.code = bytes)
    (h5 : (c.maxLocals == mx && c.exceptionTable.isEmpty && decide (c.maxStack ≤ mostOperands) && decide (meth.sig.returnType = rt) && !meth.locks && decide (parseMethodDescriptor y.desc = some meth.sig)) = true) : (Jvm.Cond.code y bytes mx rt).before a s = true := by
  simp only [Bool.and_eq_true, beq_iff_eq, Bool.not_eq_true', decide_eq_true_eq] at h5
  obtain ⟨⟨⟨⟨⟨g1, g2⟩, g3⟩, g4⟩, g5⟩, g6⟩ := h5
  simp [Cond.before, Cond.holds, Cond.value, h1, h2, h3, h4, g1, g2, g3, g4, g5, g6]
def isCode : Jvm.Cond → Bool
  | .code _ _ _ _ => true
  | _ => false
theorem all_split {L : List Jvm.Cond} {P : Jvm.Cond → Bool} (h1 : L.all (fun c => isCode c || P c) = true) (h2 : ∀ c ∈ L.filter isCode, P c = true) : L.all P = true := by
  refine List.all_eq_true.mpr fun c hc => ?_
  have h := List.all_eq_true.mp h1 c hc
  rcases Bool.eq_false_or_eq_true (isCode c) with hi | hi
  · exact h2 c (List.mem_filter.mpr ⟨hc, hi⟩)
  · simpa [hi] using h
set_option maxRecDepth 65536 in
theorem w_c0 : (Jvm.Cond.code x code maxLocals ret).before args0 about1 = true := code_word (m := ⟨1, 1⟩) (meth := k1m1) (c := k1c1) (by decide +kernel) rfl rfl rfl (by decide +kernel)
set_option maxRecDepth 65536 in
theorem w_c1 : (Jvm.Cond.code ({ cls := "java/lang/String", name := "<init>", desc := "([C)V" } : Jvm.MethodName) jdk_42_method_3_code (2 : Nat) (Option.none : Option Jvm.ClassFile.FieldType)).before args0 about1 = true := code_word (m := ⟨7, 1⟩) (meth := k7m1) (c := k7c1) (by decide +kernel) rfl rfl rfl (by decide +kernel)
set_option maxRecDepth 65536 in
theorem w_c2 : (Jvm.Cond.code ({ cls := "java/lang/String", name := "<init>", desc := "([CIILjava/lang/Void;)V" } : Jvm.MethodName) jdk_42_method_149_code (6 : Nat) (Option.none : Option Jvm.ClassFile.FieldType)).before args0 about1 = true := code_word (m := ⟨7, 6⟩) (meth := k7m6) (c := k7c6) (by decide +kernel) rfl rfl rfl (by decide +kernel)
set_option maxRecDepth 65536 in
theorem w_c3 : (Jvm.Cond.code ({ cls := "java/lang/Object", name := "<init>", desc := "()V" } : Jvm.MethodName) object_method_1_code (1 : Nat) (Option.none : Option Jvm.ClassFile.FieldType)).before args0 about1 = true := code_word (m := ⟨0, 0⟩) (meth := k0m0) (c := k0c0) (by decide +kernel) rfl rfl rfl (by decide +kernel)
set_option maxRecDepth 65536 in
theorem w_c4 : (Jvm.Cond.code ({ cls := "java/lang/StringUTF16", name := "compress", desc := "([CII)[B" } : Jvm.MethodName) jdk_52_method_16_code (6 : Nat) (Option.some (Jvm.ClassFile.FieldType.array Jvm.ClassFile.FieldType.byte))).before args0 about1 = true := code_word (m := ⟨8, 8⟩) (meth := k8m8) (c := k8c8) (by decide +kernel) rfl rfl rfl (by decide +kernel)
set_option maxRecDepth 65536 in
theorem w_c5 : (Jvm.Cond.code ({ cls := "java/lang/StringUTF16", name := "compress", desc := "([CI[BII)I" } : Jvm.MethodName) jdk_52_method_21_code (7 : Nat) (Option.some Jvm.ClassFile.FieldType.int)).before args0 about1 = true := code_word (m := ⟨8, 9⟩) (meth := k8m9) (c := k8c9) (by decide +kernel) rfl rfl rfl (by decide +kernel)
set_option maxRecDepth 65536 in
theorem w_c6 : (Jvm.Cond.code ({ cls := "java/lang/StringUTF16", name := "coderFromArrayLen", desc := "([BI)B" } : Jvm.MethodName) jdk_52_method_15_code (2 : Nat) (Option.some Jvm.ClassFile.FieldType.byte)).before args0 about1 = true := code_word (m := ⟨8, 7⟩) (meth := k8m7) (c := k8c7) (by decide +kernel) rfl rfl rfl (by decide +kernel)
set_option maxRecDepth 65536 in
theorem w_c7 : (Jvm.Cond.code ({ cls := "com/example/earnest_roster/earnestroster/ApiError", name := "noImportWithId", desc := "(Ljava/lang/String;)Lcom/example/earnest_roster/earnestroster/ApiError;" } : Jvm.MethodName) prog_1_method_3_code (1 : Nat) (Option.some (Jvm.ClassFile.FieldType.object "com/example/earnest_roster/earnestroster/ApiError"))).before args0 about1 = true := code_word (m := ⟨9, 1⟩) (meth := k9m1) (c := k9c1) (by decide +kernel) rfl rfl rfl (by decide +kernel)
set_option maxRecDepth 65536 in
theorem w_c8 : (Jvm.Cond.code ({ cls := "java/lang/StringBuilder", name := "<init>", desc := "()V" } : Jvm.MethodName) jdk_67_method_1_code (1 : Nat) (Option.none : Option Jvm.ClassFile.FieldType)).before args0 about1 = true := code_word (m := ⟨12, 0⟩) (meth := k12m0) (c := k12c0) (by decide +kernel) rfl rfl rfl (by decide +kernel)
set_option maxRecDepth 65536 in
theorem w_c9 : (Jvm.Cond.code ({ cls := "java/lang/AbstractStringBuilder", name := "<init>", desc := "(I)V" } : Jvm.MethodName) jdk_68_method_2_code (2 : Nat) (Option.none : Option Jvm.ClassFile.FieldType)).before args0 about1 = true := code_word (m := ⟨11, 1⟩) (meth := k11m1) (c := k11c1) (by decide +kernel) rfl rfl rfl (by decide +kernel)
set_option maxRecDepth 65536 in
theorem w_c10 : (Jvm.Cond.code ({ cls := "java/lang/StringBuilder", name := "append", desc := "(Ljava/lang/String;)Ljava/lang/StringBuilder;" } : Jvm.MethodName) jdk_67_method_7_code (2 : Nat) (Option.some (Jvm.ClassFile.FieldType.object "java/lang/StringBuilder"))).before args0 about1 = true := code_word (m := ⟨12, 1⟩) (meth := k12m1) (c := k12c1) (by decide +kernel) rfl rfl rfl (by decide +kernel)
set_option maxRecDepth 65536 in
theorem w_c11 : (Jvm.Cond.code ({ cls := "java/lang/AbstractStringBuilder", name := "append", desc := "(Ljava/lang/String;)Ljava/lang/AbstractStringBuilder;" } : Jvm.MethodName) jdk_68_method_22_code (3 : Nat) (Option.some (Jvm.ClassFile.FieldType.object "java/lang/AbstractStringBuilder"))).before args0 about1 = true := code_word (m := ⟨11, 6⟩) (meth := k11m6) (c := k11c6) (by decide +kernel) rfl rfl rfl (by decide +kernel)
set_option maxRecDepth 65536 in
theorem w_c12 : (Jvm.Cond.code ({ cls := "java/lang/String", name := "length", desc := "()I" } : Jvm.MethodName) jdk_42_method_54_code (1 : Nat) (Option.some Jvm.ClassFile.FieldType.int)).before args0 about1 = true := code_word (m := ⟨7, 3⟩) (meth := k7m3) (c := k7c3) (by decide +kernel) rfl rfl rfl (by decide +kernel)
set_option maxRecDepth 65536 in
theorem w_c13 : (Jvm.Cond.code ({ cls := "java/lang/String", name := "coder", desc := "()B" } : Jvm.MethodName) jdk_42_method_152_code (1 : Nat) (Option.some Jvm.ClassFile.FieldType.byte)).before args0 about1 = true := code_word (m := ⟨7, 8⟩) (meth := k7m8) (c := k7c8) (by decide +kernel) rfl rfl rfl (by decide +kernel)
set_option maxRecDepth 65536 in
theorem w_c14 : (Jvm.Cond.code ({ cls := "java/lang/AbstractStringBuilder", name := "ensureCapacityInternal", desc := "(I)V" } : Jvm.MethodName) jdk_68_method_9_code (3 : Nat) (Option.none : Option Jvm.ClassFile.FieldType)).before args0 about1 = true := code_word (m := ⟨11, 3⟩) (meth := k11m3) (c := k11c3) (by decide +kernel) rfl rfl rfl (by decide +kernel)
set_option maxRecDepth 65536 in
theorem w_c15 : (Jvm.Cond.code ({ cls := "java/lang/AbstractStringBuilder", name := "newCapacity", desc := "(I)I" } : Jvm.MethodName) jdk_68_method_10_code (6 : Nat) (Option.some Jvm.ClassFile.FieldType.int)).before args0 about1 = true := code_word (m := ⟨11, 4⟩) (meth := k11m4) (c := k11c4) (by decide +kernel) rfl rfl rfl (by decide +kernel)
set_option maxRecDepth 65536 in
theorem w_c16 : (Jvm.Cond.code ({ cls := "jdk/internal/util/ArraysSupport", name := "newLength", desc := "(III)I" } : Jvm.MethodName) jdk_48_method_27_code (4 : Nat) (Option.some Jvm.ClassFile.FieldType.int)).before args0 about1 = true := code_word (m := ⟨13, 1⟩) (meth := k13m1) (c := k13c1) (by decide +kernel) rfl rfl rfl (by decide +kernel)
set_option maxRecDepth 65536 in
theorem w_c17 : (Jvm.Cond.code ({ cls := "java/lang/Math", name := "max", desc := "(II)I" } : Jvm.MethodName) jdk_29_method_65_code (2 : Nat) (Option.some Jvm.ClassFile.FieldType.int)).before args0 about1 = true := code_word (m := ⟨14, 1⟩) (meth := k14m1) (c := k14c1) (by decide +kernel) rfl rfl rfl (by decide +kernel)
set_option maxRecDepth 65536 in
theorem w_c18 : (Jvm.Cond.code ({ cls := "java/util/Arrays", name := "copyOf", desc := "([BI)[B" } : Jvm.MethodName) jdk_65_method_121_code (3 : Nat) (Option.some (Jvm.ClassFile.FieldType.array Jvm.ClassFile.FieldType.byte))).before args0 about1 = true := code_word (m := ⟨15, 1⟩) (meth := k15m1) (c := k15c1) (by decide +kernel) rfl rfl rfl (by decide +kernel)
set_option maxRecDepth 65536 in
theorem w_c19 : (Jvm.Cond.code ({ cls := "java/lang/Math", name := "min", desc := "(II)I" } : Jvm.MethodName) jdk_29_method_69_code (2 : Nat) (Option.some Jvm.ClassFile.FieldType.int)).before args0 about1 = true := code_word (m := ⟨14, 2⟩) (meth := k14m2) (c := k14c2) (by decide +kernel) rfl rfl rfl (by decide +kernel)
set_option maxRecDepth 65536 in
theorem w_c20 : (Jvm.Cond.code ({ cls := "java/lang/AbstractStringBuilder", name := "putStringAt", desc := "(ILjava/lang/String;)V" } : Jvm.MethodName) jdk_68_method_73_code (3 : Nat) (Option.none : Option Jvm.ClassFile.FieldType)).before args0 about1 = true := code_word (m := ⟨11, 10⟩) (meth := k11m10) (c := k11c10) (by decide +kernel) rfl rfl rfl (by decide +kernel)
set_option maxRecDepth 65536 in
theorem w_c21 : (Jvm.Cond.code ({ cls := "java/lang/AbstractStringBuilder", name := "inflateIfNeededFor", desc := "(Ljava/lang/String;)V" } : Jvm.MethodName) jdk_68_method_71_code (2 : Nat) (Option.none : Option Jvm.ClassFile.FieldType)).before args0 about1 = true := code_word (m := ⟨11, 9⟩) (meth := k11m9) (c := k11c9) (by decide +kernel) rfl rfl rfl (by decide +kernel)
set_option maxRecDepth 65536 in
theorem w_c22 : (Jvm.Cond.code ({ cls := "java/lang/String", name := "getBytes", desc := "([BIB)V" } : Jvm.MethodName) jdk_42_method_147_code (4 : Nat) (Option.none : Option Jvm.ClassFile.FieldType)).before args0 about1 = true := code_word (m := ⟨7, 5⟩) (meth := k7m5) (c := k7c5) (by decide +kernel) rfl rfl rfl (by decide +kernel)
set_option maxRecDepth 65536 in
theorem w_c23 : (Jvm.Cond.code ({ cls := "java/lang/StringBuilder", name := "toString", desc := "()Ljava/lang/String;" } : Jvm.MethodName) jdk_67_method_42_code (1 : Nat) (Option.some (Jvm.ClassFile.FieldType.object "java/lang/String"))).before args0 about1 = true := code_word (m := ⟨12, 2⟩) (meth := k12m2) (c := k12c2) (by decide +kernel) rfl rfl rfl (by decide +kernel)
set_option maxRecDepth 65536 in
theorem w_c24 : (Jvm.Cond.code ({ cls := "java/lang/String", name := "<init>", desc := "(Ljava/lang/StringBuilder;)V" } : Jvm.MethodName) jdk_42_method_53_code (2 : Nat) (Option.none : Option Jvm.ClassFile.FieldType)).before args0 about1 = true := code_word (m := ⟨7, 2⟩) (meth := k7m2) (c := k7c2) (by decide +kernel) rfl rfl rfl (by decide +kernel)
set_option maxRecDepth 65536 in
theorem w_c25 : (Jvm.Cond.code ({ cls := "java/lang/String", name := "<init>", desc := "(Ljava/lang/AbstractStringBuilder;Ljava/lang/Void;)V" } : Jvm.MethodName) jdk_42_method_150_code (5 : Nat) (Option.none : Option Jvm.ClassFile.FieldType)).before args0 about1 = true := code_word (m := ⟨7, 7⟩) (meth := k7m7) (c := k7c7) (by decide +kernel) rfl rfl rfl (by decide +kernel)
set_option maxRecDepth 65536 in
theorem w_c26 : (Jvm.Cond.code ({ cls := "java/lang/AbstractStringBuilder", name := "getValue", desc := "()[B" } : Jvm.MethodName) jdk_68_method_64_code (1 : Nat) (Option.some (Jvm.ClassFile.FieldType.array Jvm.ClassFile.FieldType.byte))).before args0 about1 = true := code_word (m := ⟨11, 7⟩) (meth := k11m7) (c := k11c7) (by decide +kernel) rfl rfl rfl (by decide +kernel)
set_option maxRecDepth 65536 in
theorem w_c27 : (Jvm.Cond.code ({ cls := "java/lang/StringBuilder", name := "length", desc := "()I" } : Jvm.MethodName) jdk_67_method_93_code (1 : Nat) (Option.some Jvm.ClassFile.FieldType.int)).before args0 about1 = true := code_word (m := ⟨12, 3⟩) (meth := k12m3) (c := k12c3) (by decide +kernel) rfl rfl rfl (by decide +kernel)
set_option maxRecDepth 65536 in
theorem w_c28 : (Jvm.Cond.code ({ cls := "java/lang/AbstractStringBuilder", name := "length", desc := "()I" } : Jvm.MethodName) jdk_68_method_6_code (1 : Nat) (Option.some Jvm.ClassFile.FieldType.int)).before args0 about1 = true := code_word (m := ⟨11, 2⟩) (meth := k11m2) (c := k11c2) (by decide +kernel) rfl rfl rfl (by decide +kernel)
set_option maxRecDepth 65536 in
theorem w_c29 : (Jvm.Cond.code ({ cls := "java/lang/AbstractStringBuilder", name := "isLatin1", desc := "()Z" } : Jvm.MethodName) jdk_68_method_68_code (1 : Nat) (Option.some Jvm.ClassFile.FieldType.boolean)).before args0 about1 = true := code_word (m := ⟨11, 8⟩) (meth := k11m8) (c := k11c8) (by decide +kernel) rfl rfl rfl (by decide +kernel)
set_option maxRecDepth 65536 in
theorem w_c30 : (Jvm.Cond.code ({ cls := "java/util/Arrays", name := "copyOfRange", desc := "([BII)[B" } : Jvm.MethodName) jdk_65_method_132_code (3 : Nat) (Option.some (Jvm.ClassFile.FieldType.array Jvm.ClassFile.FieldType.byte))).before args0 about1 = true := code_word (m := ⟨15, 3⟩) (meth := k15m3) (c := k15c3) (by decide +kernel) rfl rfl rfl (by decide +kernel)
set_option maxRecDepth 65536 in
theorem w_c31 : (Jvm.Cond.code ({ cls := "com/example/earnest_roster/earnestroster/ApiError", name := "<init>", desc := "(Ljava/lang/String;Ljava/lang/String;)V" } : Jvm.MethodName) prog_1_method_1_code (3 : Nat) (Option.none : Option Jvm.ClassFile.FieldType)).before args0 about1 = true := code_word (m := ⟨9, 0⟩) (meth := k9m0) (c := k9c0) (by decide +kernel) rfl rfl rfl (by decide +kernel)
set_option maxRecDepth 65536 in
theorem w_c32 : (Jvm.Cond.code ({ cls := "java/util/Arrays", name := "copyOfRangeByte", desc := "([BII)[B" } : Jvm.MethodName) jdk_65_method_133_code (5 : Nat) (Option.some (Jvm.ClassFile.FieldType.array Jvm.ClassFile.FieldType.byte))).before args0 about1 = true := code_word (m := ⟨15, 4⟩) (meth := k15m4) (c := k15c4) (by decide +kernel) rfl rfl rfl (by decide +kernel)
set_option maxRecDepth 65536 in
theorem w_c33 : (Jvm.Cond.code ({ cls := "java/util/Arrays", name := "checkLength", desc := "(II)V" } : Jvm.MethodName) jdk_65_method_131_code (2 : Nat) (Option.none : Option Jvm.ClassFile.FieldType)).before args0 about1 = true := code_word (m := ⟨15, 2⟩) (meth := k15m2) (c := k15c2) (by decide +kernel) rfl rfl rfl (by decide +kernel)
set_option maxRecDepth 65536 in
theorem w_c34 : (Jvm.Cond.code ({ cls := "com/example/earnest_roster/earnestroster/ApiError", name := "getCode", desc := "()Ljava/lang/String;" } : Jvm.MethodName) prog_1_method_5_code (1 : Nat) (Option.some (Jvm.ClassFile.FieldType.object "java/lang/String"))).before args0 about1 = true := code_word (m := ⟨9, 2⟩) (meth := k9m2) (c := k9c2) (by decide +kernel) rfl rfl rfl (by decide +kernel)
set_option maxRecDepth 65536 in
theorem w_c35 : (Jvm.Cond.code ({ cls := "java/lang/String", name := "equals", desc := "(Ljava/lang/Object;)Z" } : Jvm.MethodName) jdk_42_method_66_code (3 : Nat) (Option.some Jvm.ClassFile.FieldType.boolean)).before args0 about1 = true := code_word (m := ⟨7, 4⟩) (meth := k7m4) (c := k7c4) (by decide +kernel) rfl rfl rfl (by decide +kernel)
set_option maxRecDepth 65536 in
theorem w_c36 : (Jvm.Cond.code ({ cls := "com/example/earnest_roster/earnestroster/ApiError", name := "getMessage", desc := "()Ljava/lang/String;" } : Jvm.MethodName) prog_1_method_6_code (1 : Nat) (Option.some (Jvm.ClassFile.FieldType.object "java/lang/String"))).before args0 about1 = true := code_word (m := ⟨9, 3⟩) (meth := k9m3) (c := k9c3) (by decide +kernel) rfl rfl rfl (by decide +kernel)
set_option maxRecDepth 65536 in
theorem w_c37 : (Jvm.Cond.code ({ cls := "java/lang/StringLatin1", name := "equals", desc := "([B[B)Z" } : Jvm.MethodName) jdk_43_method_13_code (3 : Nat) (Option.some Jvm.ClassFile.FieldType.boolean)).before args0 about1 = true := code_word (m := ⟨18, 1⟩) (meth := k18m1) (c := k18c1) (by decide +kernel) rfl rfl rfl (by decide +kernel)
set_option maxRecDepth 65536 in
theorem w_c38 : (Jvm.Cond.code ({ cls := "java/lang/StringUTF16", name := "toBytes", desc := "([CII)[B" } : Jvm.MethodName) jdk_52_method_14_code (5 : Nat) (Option.some (Jvm.ClassFile.FieldType.array Jvm.ClassFile.FieldType.byte))).before args0 about1 = true := code_word (m := ⟨8, 6⟩) (meth := k8m6) (c := k8c6) (by decide +kernel) rfl rfl rfl (by decide +kernel)
set_option maxRecDepth 65536 in
theorem w_c39 : (Jvm.Cond.code ({ cls := "java/lang/StringUTF16", name := "newBytesFor", desc := "(I)[B" } : Jvm.MethodName) jdk_52_method_2_code (1 : Nat) (Option.some (Jvm.ClassFile.FieldType.array Jvm.ClassFile.FieldType.byte))).before args0 about1 = true := code_word (m := ⟨8, 1⟩) (meth := k8m1) (c := k8c1) (by decide +kernel) rfl rfl rfl (by decide +kernel)
set_option maxRecDepth 65536 in
theorem w_c40 : (Jvm.Cond.code ({ cls := "java/lang/StringUTF16", name := "newBytesLength", desc := "(I)I" } : Jvm.MethodName) jdk_52_method_3_code (1 : Nat) (Option.some Jvm.ClassFile.FieldType.int)).before args0 about1 = true := code_word (m := ⟨8, 2⟩) (meth := k8m2) (c := k8c2) (by decide +kernel) rfl rfl rfl (by decide +kernel)
set_option maxRecDepth 65536 in
theorem w_c41 : (Jvm.Cond.code ({ cls := "java/lang/StringUTF16", name := "putChar", desc := "([BII)V" } : Jvm.MethodName) jdk_52_method_4_code (3 : Nat) (Option.none : Option Jvm.ClassFile.FieldType)).before args0 about1 = true := code_word (m := ⟨8, 3⟩) (meth := k8m3) (c := k8c3) (by decide +kernel) rfl rfl rfl (by decide +kernel)
set_option maxRecDepth 65536 in
theorem w_c42 : (Jvm.Cond.code ({ cls := "java/lang/StringUTF16", name := "getChar", desc := "([BI)C" } : Jvm.MethodName) jdk_52_method_5_code (2 : Nat) (Option.some Jvm.ClassFile.FieldType.char)).before args0 about1 = true := code_word (m := ⟨8, 4⟩) (meth := k8m4) (c := k8c4) (by decide +kernel) rfl rfl rfl (by decide +kernel)
set_option maxRecDepth 65536 in
theorem w_c43 : (Jvm.Cond.code ({ cls := "java/lang/AbstractStringBuilder", name := "inflate", desc := "()V" } : Jvm.MethodName) jdk_68_method_11_code (2 : Nat) (Option.none : Option Jvm.ClassFile.FieldType)).before args0 about1 = true := code_word (m := ⟨11, 5⟩) (meth := k11m5) (c := k11c5) (by decide +kernel) rfl rfl rfl (by decide +kernel)
set_option maxRecDepth 65536 in
theorem w_c44 : (Jvm.Cond.code ({ cls := "java/lang/StringLatin1", name := "inflate", desc := "([BI[BII)V" } : Jvm.MethodName) jdk_43_method_50_code (5 : Nat) (Option.none : Option Jvm.ClassFile.FieldType)).before args0 about1 = true := code_word (m := ⟨18, 2⟩) (meth := k18m2) (c := k18c2) (by decide +kernel) rfl rfl rfl (by decide +kernel)
set_option maxRecDepth 65536 in
theorem w_c45 : (Jvm.Cond.code ({ cls := "java/lang/StringUTF16", name := "inflate", desc := "([BI[BII)V" } : Jvm.MethodName) jdk_52_method_86_code (6 : Nat) (Option.none : Option Jvm.ClassFile.FieldType)).before args0 about1 = true := code_word (m := ⟨8, 10⟩) (meth := k8m10) (c := k8c10) (by decide +kernel) rfl rfl rfl (by decide +kernel)
set_option maxRecDepth 65536 in
theorem w_c46 : (Jvm.Cond.code ({ cls := "java/lang/StringUTF16", name := "checkBoundsOffCount", desc := "(II[B)V" } : Jvm.MethodName) jdk_52_method_94_code (3 : Nat) (Option.none : Option Jvm.ClassFile.FieldType)).before args0 about1 = true := code_word (m := ⟨8, 11⟩) (meth := k8m11) (c := k8c11) (by decide +kernel) rfl rfl rfl (by decide +kernel)
set_option maxRecDepth 65536 in
theorem w_c47 : (Jvm.Cond.code ({ cls := "java/lang/StringUTF16", name := "length", desc := "([B)I" } : Jvm.MethodName) jdk_52_method_6_code (1 : Nat) (Option.some Jvm.ClassFile.FieldType.int)).before args0 about1 = true := code_word (m := ⟨8, 5⟩) (meth := k8m5) (c := k8c5) (by decide +kernel) rfl rfl rfl (by decide +kernel)
set_option maxRecDepth 65536 in
theorem w_c48 : (Jvm.Cond.code ({ cls := "java/lang/String", name := "checkBoundsOffCount", desc := "(III)I" } : Jvm.MethodName) jdk_42_method_157_code (3 : Nat) (Option.some Jvm.ClassFile.FieldType.int)).before args0 about1 = true := code_word (m := ⟨7, 9⟩) (meth := k7m9) (c := k7c9) (by decide +kernel) rfl rfl rfl (by decide +kernel)
set_option maxRecDepth 65536 in
theorem w_c49 : (Jvm.Cond.code ({ cls := "jdk/internal/util/Preconditions", name := "checkFromIndexSize", desc := "(IIILjava/util/function/BiFunction;)I" } : Jvm.MethodName) jdk_41_method_13_code (4 : Nat) (Option.some Jvm.ClassFile.FieldType.int)).before args0 about1 = true := code_word (m := ⟨19, 1⟩) (meth := k19m1) (c := k19c1) (by decide +kernel) rfl rfl rfl (by decide +kernel)
def codes1 : List Jvm.Cond := [Jvm.Cond.code x code maxLocals ret, Jvm.Cond.code ({ cls := "java/lang/String", name := "<init>", desc := "([C)V" } : Jvm.MethodName) jdk_42_method_3_code (2 : Nat) (Option.none : Option Jvm.ClassFile.FieldType), Jvm.Cond.code ({ cls := "java/lang/String", name := "<init>", desc := "([CIILjava/lang/Void;)V" } : Jvm.MethodName) jdk_42_method_149_code (6 : Nat) (Option.none : Option Jvm.ClassFile.FieldType), Jvm.Cond.code ({ cls := "java/lang/Object", name := "<init>", desc := "()V" } : Jvm.MethodName) object_method_1_code (1 : Nat) (Option.none : Option Jvm.ClassFile.FieldType), Jvm.Cond.code ({ cls := "java/lang/StringUTF16", name := "compress", desc := "([CII)[B" } : Jvm.MethodName) jdk_52_method_16_code (6 : Nat) (Option.some (Jvm.ClassFile.FieldType.array Jvm.ClassFile.FieldType.byte)), Jvm.Cond.code ({ cls := "java/lang/StringUTF16", name := "compress", desc := "([CI[BII)I" } : Jvm.MethodName) jdk_52_method_21_code (7 : Nat) (Option.some Jvm.ClassFile.FieldType.int), Jvm.Cond.code ({ cls := "java/lang/StringUTF16", name := "coderFromArrayLen", desc := "([BI)B" } : Jvm.MethodName) jdk_52_method_15_code (2 : Nat) (Option.some Jvm.ClassFile.FieldType.byte), Jvm.Cond.code ({ cls := "com/example/earnest_roster/earnestroster/ApiError", name := "noImportWithId", desc := "(Ljava/lang/String;)Lcom/example/earnest_roster/earnestroster/ApiError;" } : Jvm.MethodName) prog_1_method_3_code (1 : Nat) (Option.some (Jvm.ClassFile.FieldType.object "com/example/earnest_roster/earnestroster/ApiError")), Jvm.Cond.code ({ cls := "java/lang/StringBuilder", name := "<init>", desc := "()V" } : Jvm.MethodName) jdk_67_method_1_code (1 : Nat) (Option.none : Option Jvm.ClassFile.FieldType), Jvm.Cond.code ({ cls := "java/lang/AbstractStringBuilder", name := "<init>", desc := "(I)V" } : Jvm.MethodName) jdk_68_method_2_code (2 : Nat) (Option.none : Option Jvm.ClassFile.FieldType), Jvm.Cond.code ({ cls := "java/lang/StringBuilder", name := "append", desc := "(Ljava/lang/String;)Ljava/lang/StringBuilder;" } : Jvm.MethodName) jdk_67_method_7_code (2 : Nat) (Option.some (Jvm.ClassFile.FieldType.object "java/lang/StringBuilder")), Jvm.Cond.code ({ cls := "java/lang/AbstractStringBuilder", name := "append", desc := "(Ljava/lang/String;)Ljava/lang/AbstractStringBuilder;" } : Jvm.MethodName) jdk_68_method_22_code (3 : Nat) (Option.some (Jvm.ClassFile.FieldType.object "java/lang/AbstractStringBuilder")), Jvm.Cond.code ({ cls := "java/lang/String", name := "length", desc := "()I" } : Jvm.MethodName) jdk_42_method_54_code (1 : Nat) (Option.some Jvm.ClassFile.FieldType.int), Jvm.Cond.code ({ cls := "java/lang/String", name := "coder", desc := "()B" } : Jvm.MethodName) jdk_42_method_152_code (1 : Nat) (Option.some Jvm.ClassFile.FieldType.byte), Jvm.Cond.code ({ cls := "java/lang/AbstractStringBuilder", name := "ensureCapacityInternal", desc := "(I)V" } : Jvm.MethodName) jdk_68_method_9_code (3 : Nat) (Option.none : Option Jvm.ClassFile.FieldType), Jvm.Cond.code ({ cls := "java/lang/AbstractStringBuilder", name := "newCapacity", desc := "(I)I" } : Jvm.MethodName) jdk_68_method_10_code (6 : Nat) (Option.some Jvm.ClassFile.FieldType.int), Jvm.Cond.code ({ cls := "jdk/internal/util/ArraysSupport", name := "newLength", desc := "(III)I" } : Jvm.MethodName) jdk_48_method_27_code (4 : Nat) (Option.some Jvm.ClassFile.FieldType.int), Jvm.Cond.code ({ cls := "java/lang/Math", name := "max", desc := "(II)I" } : Jvm.MethodName) jdk_29_method_65_code (2 : Nat) (Option.some Jvm.ClassFile.FieldType.int), Jvm.Cond.code ({ cls := "java/util/Arrays", name := "copyOf", desc := "([BI)[B" } : Jvm.MethodName) jdk_65_method_121_code (3 : Nat) (Option.some (Jvm.ClassFile.FieldType.array Jvm.ClassFile.FieldType.byte)), Jvm.Cond.code ({ cls := "java/lang/Math", name := "min", desc := "(II)I" } : Jvm.MethodName) jdk_29_method_69_code (2 : Nat) (Option.some Jvm.ClassFile.FieldType.int), Jvm.Cond.code ({ cls := "java/lang/AbstractStringBuilder", name := "putStringAt", desc := "(ILjava/lang/String;)V" } : Jvm.MethodName) jdk_68_method_73_code (3 : Nat) (Option.none : Option Jvm.ClassFile.FieldType), Jvm.Cond.code ({ cls := "java/lang/AbstractStringBuilder", name := "inflateIfNeededFor", desc := "(Ljava/lang/String;)V" } : Jvm.MethodName) jdk_68_method_71_code (2 : Nat) (Option.none : Option Jvm.ClassFile.FieldType), Jvm.Cond.code ({ cls := "java/lang/String", name := "getBytes", desc := "([BIB)V" } : Jvm.MethodName) jdk_42_method_147_code (4 : Nat) (Option.none : Option Jvm.ClassFile.FieldType), Jvm.Cond.code ({ cls := "java/lang/StringBuilder", name := "toString", desc := "()Ljava/lang/String;" } : Jvm.MethodName) jdk_67_method_42_code (1 : Nat) (Option.some (Jvm.ClassFile.FieldType.object "java/lang/String")), Jvm.Cond.code ({ cls := "java/lang/String", name := "<init>", desc := "(Ljava/lang/StringBuilder;)V" } : Jvm.MethodName) jdk_42_method_53_code (2 : Nat) (Option.none : Option Jvm.ClassFile.FieldType), Jvm.Cond.code ({ cls := "java/lang/String", name := "<init>", desc := "(Ljava/lang/AbstractStringBuilder;Ljava/lang/Void;)V" } : Jvm.MethodName) jdk_42_method_150_code (5 : Nat) (Option.none : Option Jvm.ClassFile.FieldType), Jvm.Cond.code ({ cls := "java/lang/AbstractStringBuilder", name := "getValue", desc := "()[B" } : Jvm.MethodName) jdk_68_method_64_code (1 : Nat) (Option.some (Jvm.ClassFile.FieldType.array Jvm.ClassFile.FieldType.byte)), Jvm.Cond.code ({ cls := "java/lang/StringBuilder", name := "length", desc := "()I" } : Jvm.MethodName) jdk_67_method_93_code (1 : Nat) (Option.some Jvm.ClassFile.FieldType.int), Jvm.Cond.code ({ cls := "java/lang/AbstractStringBuilder", name := "length", desc := "()I" } : Jvm.MethodName) jdk_68_method_6_code (1 : Nat) (Option.some Jvm.ClassFile.FieldType.int), Jvm.Cond.code ({ cls := "java/lang/AbstractStringBuilder", name := "isLatin1", desc := "()Z" } : Jvm.MethodName) jdk_68_method_68_code (1 : Nat) (Option.some Jvm.ClassFile.FieldType.boolean), Jvm.Cond.code ({ cls := "java/util/Arrays", name := "copyOfRange", desc := "([BII)[B" } : Jvm.MethodName) jdk_65_method_132_code (3 : Nat) (Option.some (Jvm.ClassFile.FieldType.array Jvm.ClassFile.FieldType.byte)), Jvm.Cond.code ({ cls := "com/example/earnest_roster/earnestroster/ApiError", name := "<init>", desc := "(Ljava/lang/String;Ljava/lang/String;)V" } : Jvm.MethodName) prog_1_method_1_code (3 : Nat) (Option.none : Option Jvm.ClassFile.FieldType), Jvm.Cond.code ({ cls := "java/util/Arrays", name := "copyOfRangeByte", desc := "([BII)[B" } : Jvm.MethodName) jdk_65_method_133_code (5 : Nat) (Option.some (Jvm.ClassFile.FieldType.array Jvm.ClassFile.FieldType.byte)), Jvm.Cond.code ({ cls := "java/util/Arrays", name := "checkLength", desc := "(II)V" } : Jvm.MethodName) jdk_65_method_131_code (2 : Nat) (Option.none : Option Jvm.ClassFile.FieldType), Jvm.Cond.code ({ cls := "com/example/earnest_roster/earnestroster/ApiError", name := "getCode", desc := "()Ljava/lang/String;" } : Jvm.MethodName) prog_1_method_5_code (1 : Nat) (Option.some (Jvm.ClassFile.FieldType.object "java/lang/String")), Jvm.Cond.code ({ cls := "java/lang/String", name := "equals", desc := "(Ljava/lang/Object;)Z" } : Jvm.MethodName) jdk_42_method_66_code (3 : Nat) (Option.some Jvm.ClassFile.FieldType.boolean), Jvm.Cond.code ({ cls := "com/example/earnest_roster/earnestroster/ApiError", name := "getMessage", desc := "()Ljava/lang/String;" } : Jvm.MethodName) prog_1_method_6_code (1 : Nat) (Option.some (Jvm.ClassFile.FieldType.object "java/lang/String")), Jvm.Cond.code ({ cls := "java/lang/StringLatin1", name := "equals", desc := "([B[B)Z" } : Jvm.MethodName) jdk_43_method_13_code (3 : Nat) (Option.some Jvm.ClassFile.FieldType.boolean), Jvm.Cond.code ({ cls := "java/lang/StringUTF16", name := "toBytes", desc := "([CII)[B" } : Jvm.MethodName) jdk_52_method_14_code (5 : Nat) (Option.some (Jvm.ClassFile.FieldType.array Jvm.ClassFile.FieldType.byte)), Jvm.Cond.code ({ cls := "java/lang/StringUTF16", name := "newBytesFor", desc := "(I)[B" } : Jvm.MethodName) jdk_52_method_2_code (1 : Nat) (Option.some (Jvm.ClassFile.FieldType.array Jvm.ClassFile.FieldType.byte)), Jvm.Cond.code ({ cls := "java/lang/StringUTF16", name := "newBytesLength", desc := "(I)I" } : Jvm.MethodName) jdk_52_method_3_code (1 : Nat) (Option.some Jvm.ClassFile.FieldType.int), Jvm.Cond.code ({ cls := "java/lang/StringUTF16", name := "putChar", desc := "([BII)V" } : Jvm.MethodName) jdk_52_method_4_code (3 : Nat) (Option.none : Option Jvm.ClassFile.FieldType), Jvm.Cond.code ({ cls := "java/lang/StringUTF16", name := "getChar", desc := "([BI)C" } : Jvm.MethodName) jdk_52_method_5_code (2 : Nat) (Option.some Jvm.ClassFile.FieldType.char), Jvm.Cond.code ({ cls := "java/lang/AbstractStringBuilder", name := "inflate", desc := "()V" } : Jvm.MethodName) jdk_68_method_11_code (2 : Nat) (Option.none : Option Jvm.ClassFile.FieldType), Jvm.Cond.code ({ cls := "java/lang/StringLatin1", name := "inflate", desc := "([BI[BII)V" } : Jvm.MethodName) jdk_43_method_50_code (5 : Nat) (Option.none : Option Jvm.ClassFile.FieldType), Jvm.Cond.code ({ cls := "java/lang/StringUTF16", name := "inflate", desc := "([BI[BII)V" } : Jvm.MethodName) jdk_52_method_86_code (6 : Nat) (Option.none : Option Jvm.ClassFile.FieldType), Jvm.Cond.code ({ cls := "java/lang/StringUTF16", name := "checkBoundsOffCount", desc := "(II[B)V" } : Jvm.MethodName) jdk_52_method_94_code (3 : Nat) (Option.none : Option Jvm.ClassFile.FieldType), Jvm.Cond.code ({ cls := "java/lang/StringUTF16", name := "length", desc := "([B)I" } : Jvm.MethodName) jdk_52_method_6_code (1 : Nat) (Option.some Jvm.ClassFile.FieldType.int), Jvm.Cond.code ({ cls := "java/lang/String", name := "checkBoundsOffCount", desc := "(III)I" } : Jvm.MethodName) jdk_42_method_157_code (3 : Nat) (Option.some Jvm.ClassFile.FieldType.int), Jvm.Cond.code ({ cls := "jdk/internal/util/Preconditions", name := "checkFromIndexSize", desc := "(IIILjava/util/function/BiFunction;)I" } : Jvm.MethodName) jdk_41_method_13_code (4 : Nat) (Option.some Jvm.ClassFile.FieldType.int)]
set_option maxRecDepth 65536 in
theorem codes_eq : words1.filter isCode = codes1 := rfl
theorem w_codes : ∀ c ∈ words1.filter isCode, c.before args0 about1 = true := by
  rw [codes_eq]
  intro c hc
  simp only [codes1, List.mem_cons, List.not_mem_nil, or_false] at hc
  rcases hc with rfl | rfl | rfl | rfl | rfl | rfl | rfl | rfl | rfl | rfl | rfl | rfl | rfl | rfl | rfl | rfl | rfl | rfl | rfl | rfl | rfl | rfl | rfl | rfl | rfl | rfl | rfl | rfl | rfl | rfl | rfl | rfl | rfl | rfl | rfl | rfl | rfl | rfl | rfl | rfl | rfl | rfl | rfl | rfl | rfl | rfl | rfl | rfl | rfl | rfl
  · exact w_c0
  · exact w_c1
  · exact w_c2
  · exact w_c3
  · exact w_c4
  · exact w_c5
  · exact w_c6
  · exact w_c7
  · exact w_c8
  · exact w_c9
  · exact w_c10
  · exact w_c11
  · exact w_c12
  · exact w_c13
  · exact w_c14
  · exact w_c15
  · exact w_c16
  · exact w_c17
  · exact w_c18
  · exact w_c19
  · exact w_c20
  · exact w_c21
  · exact w_c22
  · exact w_c23
  · exact w_c24
  · exact w_c25
  · exact w_c26
  · exact w_c27
  · exact w_c28
  · exact w_c29
  · exact w_c30
  · exact w_c31
  · exact w_c32
  · exact w_c33
  · exact w_c34
  · exact w_c35
  · exact w_c36
  · exact w_c37
  · exact w_c38
  · exact w_c39
  · exact w_c40
  · exact w_c41
  · exact w_c42
  · exact w_c43
  · exact w_c44
  · exact w_c45
  · exact w_c46
  · exact w_c47
  · exact w_c48
  · exact w_c49
set_option maxRecDepth 65536 in
theorem w_t1 : (words1.take 24).all (fun c => isCode c || c.before args0 about1) = true := by decide +kernel
set_option maxRecDepth 65536 in
theorem w_t2 : ((words1.drop 24).take 24).all (fun c => isCode c || c.before args0 about1) = true := by decide +kernel
set_option maxRecDepth 65536 in
theorem w_t3 : (((words1.drop 24).drop 24).take 24).all (fun c => isCode c || c.before args0 about1) = true := by decide +kernel
set_option maxRecDepth 65536 in
theorem w_t4 : ((((words1.drop 24).drop 24).drop 24).take 24).all (fun c => isCode c || c.before args0 about1) = true := by decide +kernel
set_option maxRecDepth 65536 in
theorem w_t5 : (((((words1.drop 24).drop 24).drop 24).drop 24).take 24).all (fun c => isCode c || c.before args0 about1) = true := by decide +kernel
set_option maxRecDepth 65536 in
theorem w_t6 : ((((((words1.drop 24).drop 24).drop 24).drop 24).drop 24).take 24).all (fun c => isCode c || c.before args0 about1) = true := by decide +kernel
set_option maxRecDepth 65536 in
theorem w_t7 : (((((((words1.drop 24).drop 24).drop 24).drop 24).drop 24).drop 24).take 24).all (fun c => isCode c || c.before args0 about1) = true := by decide +kernel
set_option maxRecDepth 65536 in
theorem w_t8 : ((((((((words1.drop 24).drop 24).drop 24).drop 24).drop 24).drop 24).drop 24).take 24).all (fun c => isCode c || c.before args0 about1) = true := by decide +kernel
set_option maxRecDepth 65536 in
theorem w_t9 : (((((((((words1.drop 24).drop 24).drop 24).drop 24).drop 24).drop 24).drop 24).drop 24).take 24).all (fun c => isCode c || c.before args0 about1) = true := by decide +kernel
set_option maxRecDepth 65536 in
theorem w_t10 : ((((((((((words1.drop 24).drop 24).drop 24).drop 24).drop 24).drop 24).drop 24).drop 24).drop 24).take 24).all (fun c => isCode c || c.before args0 about1) = true := by decide +kernel
set_option maxRecDepth 65536 in
theorem w_t11 : ((((((((((words1.drop 24).drop 24).drop 24).drop 24).drop 24).drop 24).drop 24).drop 24).drop 24).drop 24).all (fun c => isCode c || c.before args0 about1) = true := by decide +kernel
theorem w_tables : (allAtoms (Jvm.Cond.code x code maxLocals ret :: tables_1)).before args0 about1 = true := by
  rw [allAtoms_all]
  show words1.all (fun c => c.before args0 about1) = true
  refine all_split ?_ w_codes
  rw [← List.take_append_drop 24 words1, List.all_append, w_t1, ← List.take_append_drop 24 (words1.drop 24), List.all_append, w_t2, ← List.take_append_drop 24 ((words1.drop 24).drop 24), List.all_append, w_t3, ← List.take_append_drop 24 (((words1.drop 24).drop 24).drop 24), List.all_append, w_t4, ← List.take_append_drop 24 ((((words1.drop 24).drop 24).drop 24).drop 24), List.all_append, w_t5, ← List.take_append_drop 24 (((((words1.drop 24).drop 24).drop 24).drop 24).drop 24), List.all_append, w_t6, ← List.take_append_drop 24 ((((((words1.drop 24).drop 24).drop 24).drop 24).drop 24).drop 24), List.all_append, w_t7, ← List.take_append_drop 24 (((((((words1.drop 24).drop 24).drop 24).drop 24).drop 24).drop 24).drop 24), List.all_append, w_t8, ← List.take_append_drop 24 ((((((((words1.drop 24).drop 24).drop 24).drop 24).drop 24).drop 24).drop 24).drop 24), List.all_append, w_t9, ← List.take_append_drop 24 (((((((((words1.drop 24).drop 24).drop 24).drop 24).drop 24).drop 24).drop 24).drop 24).drop 24), List.all_append, w_t10, w_t11]
  rfl
set_option maxRecDepth 65536 in
theorem w_rest : rest_1_c.before args0 about1 = true := by decide +kernel
set_option maxRecDepth 65536 in
theorem w_case : (Jvm.Cond.and given_1 narrow_1).before args0 about1 = true := by decide +kernel
set_option maxRecDepth 65536 in
theorem w_consts : constsHeld consts_1 about1 := Jvm.Lit.constsHeldB_iff.mp (by decide +kernel)
theorem w_applies : (headSpec (Jvm.Cond.code x code maxLocals ret :: tables_1) room_1).applies x e0.platform about1 = true :=
  (Spec.applies_iff w_frames).mpr ⟨w_running, w_runnable, w_alone, w_named, w_hears, w_ripe, w_room, w_tables⟩
theorem atStart : AtStart classFile x code maxLocals ret World_1 tables_1 room_1 Calls_1 rest_1 Pre_1 launch0 p0 e0 about1 theMethod args0 below0 :=
  ⟨lists_1, trivial, launch0.admits_env _ _ _, launch0.least_env, fairChoices_fair.cas, fairChoices_fair.clock, w_frames, w_args, w_heap, w_applies, ⟨w_consts, trivial⟩, w_rest, w_case⟩
end start1
theorem witness_1 : WitnessClaimed_1 := ⟨start1.p0, start1.e0, start1.about1, start1.theMethod, start1.args0, start1.below0, start1.atStart⟩
end Jvm.Pilot.@@N@@
