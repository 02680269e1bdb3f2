import JvmDerived
import JvmDerived.Pilot.@@N@@Statement
import JvmDerived.Pilot.@@N@@Code
set_option linter.unusedVariables false
set_option linter.unusedSimpArgs false
namespace Jvm.RoadKit
open Sem ClassFile Op Lib Jvm.Stand Jvm.Free Jvm.LawKit
section New
variable {p : Program} {l : Launch} {e : Env} {R : Room} {s : State} {m : MethodId} {args : Array Value} {below : List Frame} {meth : Method} {c : Code} {T : State} {locs : List Loc} {cells slots : Nat}
theorem retI (X : Stand p l e R s m args below meth c T locs cells slots) (hx : p.tables.exec = Jvm.exec) {pc : Nat} {Ls : Array Slot} {z : Int32} {rest : List Value} (hret : meth.sig.returnType = some .int) (hd : decode c.code pc = .ok (.ireturn, 1)) {fs : List Frame}
    (hl : ∀ (f : JFrame) (acts : List Action), f.method = m → f.locked = none → f.entered = [] → (doReturn e (T.setTop f) acts (some (.int z))).1 = T.setFrames fs) : Steps p.tables e below (T.setTop (mkF m pc Ls (.int z :: rest))) (T.setFrames fs) := by
  have hm' : T.vm.method? m = some meth := X.method'
  have hn : narrow .int (.int z) = .int z := rfl
  show Steps p.tables e below (T.setTop { method := m, pc := pc, locals := Ls, stack := _ :: rest, locked := none }) _
  jvm_step X.here [X.here.top, hx, hd, hm', hret, hn]
  first | (intro acts; rw [hl _ acts rfl rfl rfl]) | rw [hl _ _ rfl rfl rfl]
  exact Steps.refl _
end New
end Jvm.RoadKit
/- laws to paste: Road.backV, Road.eqW (cut by pick.py; bodies as the Statement names them) -/
namespace Jvm.Pilot.@@N@@
namespace StrChars
open Jvm Sem ClassFile Op Lib Jvm.Stand Jvm.Free.XT Jvm.Free.ALB Jvm.Free.JM Jvm.Free
open Jvm.Lib.Cold (StaticIs)
/-- a char array whose places are chars -/
def Ch (a : Addr) (A : Cell) (U : State) : Prop := Arr .char a A U ∧ Typed .char A
theorem Ch.mv {a : Addr} {A : Cell} {U U' : State} (h : Ch a A U) (hal : U.vm.Alike U'.vm) (hh : U'.heap = U.heap) : Ch a A U' := ⟨h.1.mv hal hh, h.2⟩
theorem Ch.keep {a : Addr} {A : Cell} {U U' : State} (h : Ch a A U) (hal : U.vm.Alike U'.vm) (hk : U'.heap[a]? = some A) : Ch a A U' := ⟨h.1.keep hal hk, h.2⟩
/-- what place i of a char[]'s cell holds -/
def cv (A : Cell) (i : Nat) : Int32 := match A.slots[i]? with | some (.int x) => x | _ => 0
theorem Ch.get {a : Addr} {A : Cell} {U : State} (h : Ch a A U) {i : Nat} (hi : i < A.slots.size) : A.slots[i]? = some (.int (cv A i)) := by
  have e := Array.getElem?_eq_getElem hi
  have f := h.2 i _ e
  unfold cv; rw [e]
  generalize A.slots[i] = v at f
  cases v <;> simp [fits] at f ⊢
/-- the byte that i2b leaves of a char -/
def lo8 (x : Int32) : Int32 := x.toInt8.toInt32
theorem fits_lo8 (y : Int32) : fits .byte (.int (lo8 y)) = true := by
  have h1 := y.toInt8.le_toInt
  have h2 := y.toInt8.toInt_lt
  simp only [lo8, fits, Bool.and_eq_true, decide_eq_true_eq, Int32.le_iff_toInt_le, Int8.toInt_toInt32, show (-128 : Int32).toInt = -128 from by decide, show (127 : Int32).toInt = 127 from by decide]
  omega
/-- A' is A but that each place j of lo .. hi - 1 holds f j -/
def Laid (A A' : Cell) (lo hi : Nat) (f : Nat → Value) : Prop := A'.cls = A.cls ∧ A'.vm = A.vm ∧ A'.slots.size = A.slots.size ∧ ∀ i, A'.slots[i]? = if lo ≤ i ∧ i < hi then some (f i) else A.slots[i]?
theorem Laid.zero (A : Cell) (lo : Nat) (f : Nat → Value) : Laid A A lo (lo + 0) f := ⟨rfl, rfl, rfl, fun i => by rw [if_neg (by omega)]⟩
theorem Laid.step {A Ak : Cell} {lo k : Nat} {f : Nat → Value} {v : Value} (h : Laid A Ak lo k f) (hlo : lo ≤ k) (hk : k < Ak.slots.size) (hv : v = f k) : Laid A (Ak.setSlot k v) lo (k + 1) f := by
  refine ⟨h.1, h.2.1, by simpa [Cell.setSlot] using h.2.2.1, fun i => ?_⟩
  by_cases e : k = i
  · subst e; rw [Cell.slots_setSlot_self v hk, if_pos (by omega), hv]
  · rw [Cell.slots_setSlot_ne v e, h.2.2.2 i]
    by_cases q : lo ≤ i ∧ i < k
    · rw [if_pos q, if_pos (by omega)]
    · rw [if_neg q, if_neg (by omega)]
def U16 : String := "java/lang/StringUTF16"
namespace Cmp5
def yN : MethodName := ⟨"java/lang/StringUTF16", "compress", "([CI[BII)I"⟩
abbrev yB : ByteArray := jdk_52_method_21_code
theorem d0 : decode yB 0 = .ok (.iconst 0, 1) := by decide +kernel
theorem d1 : decode yB 1 = .ok (.istore 5, 2) := by decide +kernel
theorem d3 : decode yB 3 = .ok (.iload 5, 2) := by decide +kernel
theorem d5 : decode yB 5 = .ok (.iload 4, 2) := by decide +kernel
theorem d7 : decode yB 7 = .ok (.if_icmp (.ge) 37, 3) := by decide +kernel
theorem d10 : decode yB 10 = .ok (.aload_n 0, 1) := by decide +kernel
theorem d11 : decode yB 11 = .ok (.iload_n 1, 1) := by decide +kernel
theorem d12 : decode yB 12 = .ok (.caload, 1) := by decide +kernel
theorem d13 : decode yB 13 = .ok (.istore 6, 2) := by decide +kernel
theorem d15 : decode yB 15 = .ok (.iload 6, 2) := by decide +kernel
theorem d17 : decode yB 17 = .ok (.sipush 255, 3) := by decide +kernel
theorem d20 : decode yB 20 = .ok (.if_icmp (.le) 6, 3) := by decide +kernel
theorem d26 : decode yB 26 = .ok (.aload_n 2, 1) := by decide +kernel
theorem d27 : decode yB 27 = .ok (.iload_n 3, 1) := by decide +kernel
theorem d28 : decode yB 28 = .ok (.iload 6, 2) := by decide +kernel
theorem d30 : decode yB 30 = .ok (.i2b, 1) := by decide +kernel
theorem d31 : decode yB 31 = .ok (.bastore, 1) := by decide +kernel
theorem d32 : decode yB 32 = .ok (.iinc 1 1, 3) := by decide +kernel
theorem d35 : decode yB 35 = .ok (.iinc 3 1, 3) := by decide +kernel
theorem d38 : decode yB 38 = .ok (.iinc 5 1, 3) := by decide +kernel
theorem d41 : decode yB 41 = .ok (.goto (-38), 3) := by decide +kernel
theorem d44 : decode yB 44 = .ok (.iload 4, 2) := by decide +kernel
theorem d46 : decode yB 46 = .ok (.ireturn, 1) := by decide +kernel
def site : List Cond := []
def tab : Cond := tabOf yN yB 7 (some .int) site
def P (b : Addr) (A : Cell) (d : Addr) (B : Cell) (o q len : Nat) (args : Array Value) (s : State) : Prop := args = #[.ref b, .int (Int32.ofNat o), .ref d, .int (Int32.ofNat q), .int (Int32.ofNat len)] ∧ Ch b A s ∧ Arr .byte d B s ∧ b ≠ d ∧ o + len ≤ A.slots.size ∧ q + len ≤ B.slots.size ∧ ∀ i, i < len → ¬ 255 < cv A (o + i)
def E (b : Addr) (A : Cell) (d : Addr) (B : Cell) (o q len : Nat) (r : Option Value) (s u : State) : Prop := r = some (.int (Int32.ofNat len)) ∧ ∃ B', Put d B' s u ∧ Laid B B' q (q + len) (fun j => Value.int (lo8 (cv A (o + (j - q)))))
/-- no char of the range above 255: len; the places written hold each char's low byte -/
theorem law (l : Launch) (b : Addr) (A : Cell) (d : Addr) (B : Cell) (o q len : Nat) : Law l yN 5 5 0 0 yB 7 (some .int) site (P b A d B o q len) (E b A d B o q len) (copyLocs d q len) 0 0 := by
  refine Law.of_walk (plainFor_of_name (by decide +kernel)) (by decide +kernel) (by decide +kernel) (by decide) (fun _ _ h => by rw [h.1]; rfl) (fun _ U U' hal hh h => ⟨h.1, h.2.1.mv hal hh, h.2.2.1.mv hal hh, h.2.2.2⟩) (fun r U U' V V' h1 hal h2 h => ⟨h.1, h.2.elim fun B' q => ⟨B', q.1.mv h1 h2, q.2⟩⟩) ?_
  intro p e s m args below meth c s₁ X0 hexec hbytes hml hret hlk hnm hown hh0 W hP
  obtain ⟨rfl, hA, hB, hne, l1, l2, hp⟩ := hP
  have c1 : Steps p.tables e below (s₁.setTop (entryFrame m #[.ref b, .int (Int32.ofNat o), .ref d, .int (Int32.ofNat q), .int (Int32.ofNat len)] 7)) (s₁.setTop (mkF m 0 #[.val (.ref b), .val (.int (Int32.ofNat o)), .val (.ref d), .val (.int (Int32.ofNat q)), .val (.int (Int32.ofNat len)), .unset, .unset] [])) := entry rfl
  have hA0 := hA.1.mv X0.warmed.alike hh0
  have hB0 := hB.mv X0.warmed.alike hh0
  have a31 := hA.1.2.2.2
  have c2 : Steps p.tables e below (s₁.setTop (entryFrame m #[.ref b, .int (Int32.ofNat o), .ref d, .int (Int32.ofNat q), .int (Int32.ofNat len)] 7)) (s₁.setTop (mkF m 3 #[.val (.ref b), .val (.int (Int32.ofNat o)), .val (.ref d), .val (.int (Int32.ofNat q)), .val (.int (Int32.ofNat len)), .val (.int 0), .unset] [])) := c1.trans (by
    refine iconstV X0.here hexec rfl 0 (hb hbytes d0) (by decide) ?_
    refine XS.istore X0.here hexec rfl (hb hbytes d1) rfl rfl ?_
    exact Steps.refl _)
  have loop : ∀ (r i : Nat), i + r = len → ∀ (z : Slot), (z = .unset ∨ ∃ w, z = .val w ∧ w.category = 1) → ∀ (Tl : State) (Bk : Cell), Stand p l e { frames := 0, locals := 0, cells := 0, slots := 0 } s m #[.ref b, .int (Int32.ofNat o), .ref d, .int (Int32.ofNat q), .int (Int32.ofNat len)] below meth c Tl ([] ++ copyLocs d q i) 0 0 → Put d Bk s₁ Tl → Laid B Bk q (q + i) (fun j => Value.int (lo8 (cv A (o + (j - q))))) →
      Steps p.tables e below (s₁.setTop (entryFrame m #[.ref b, .int (Int32.ofNat o), .ref d, .int (Int32.ofNat q), .int (Int32.ofNat len)] 7)) (Tl.setTop (mkF m 3 #[.val (.ref b), .val (.int (Int32.ofNat (o + i))), .val (.ref d), .val (.int (Int32.ofNat (q + i))), .val (.int (Int32.ofNat len)), .val (.int (Int32.ofNat i)), z] [])) → ∃ (T' : State) (B' : Cell) (z' : Slot), Stand p l e { frames := 0, locals := 0, cells := 0, slots := 0 } s m #[.ref b, .int (Int32.ofNat o), .ref d, .int (Int32.ofNat q), .int (Int32.ofNat len)] below meth c T' ([] ++ copyLocs d q len) 0 0 ∧ Put d B' s₁ T' ∧ Laid B B' q (q + len) (fun j => Value.int (lo8 (cv A (o + (j - q))))) ∧
      Steps p.tables e below (s₁.setTop (entryFrame m #[.ref b, .int (Int32.ofNat o), .ref d, .int (Int32.ofNat q), .int (Int32.ofNat len)] 7)) (T'.setTop (mkF m 3 #[.val (.ref b), .val (.int (Int32.ofNat (o + len))), .val (.ref d), .val (.int (Int32.ofNat (q + len))), .val (.int (Int32.ofNat len)), .val (.int (Int32.ofNat len)), z'] [])) := by
    intro r
    induction r with
    | zero =>
      intro i hi z hz Tl Bk Xl pl fl cl
      have hil : i = len := by omega
      rw [hil] at Xl fl cl
      exact ⟨Tl, Bk, z, Xl, pl, fl, cl⟩
    | succ r ih =>
      intro i hi z hz Tl Bk Xl pl fl cl
      have all := X0.warmed.alike.symm.trans Xl.warmed.alike
      have hAl := hA0.keep all (pl.other hne hA0.1)
      have hBk := hB0.like all pl.1 fl.1 fl.2.1 fl.2.2.1
      have hlt : q + i < Bk.slots.size := by rw [fl.2.2.1]; omega
      have c3 : Steps p.tables e below (s₁.setTop (entryFrame m #[.ref b, .int (Int32.ofNat o), .ref d, .int (Int32.ofNat q), .int (Int32.ofNat len)] 7)) (Tl.setTop (mkF m 12 #[.val (.ref b), .val (.int (Int32.ofNat (o + i))), .val (.ref d), .val (.int (Int32.ofNat (q + i))), .val (.int (Int32.ofNat len)), .val (.int (Int32.ofNat i)), z] [.int (Int32.ofNat (o + i)), .ref b])) := cl.trans (by
        refine XS.iload Xl.here hexec rfl (hb hbytes d3) rfl ?_
        refine XS.iload Xl.here hexec rfl (hb hbytes d5) rfl ?_
        refine XS.icmpNo Xl.here hexec rfl (hb hbytes d7) rfl (ii_ge_f (lt32 (by omega) (by omega))) ?_
        refine XS.aloadN Xl.here hexec rfl (hb hbytes d10) rfl rfl ?_
        refine XS.iloadN Xl.here hexec rfl (hb hbytes d11) rfl ?_
        exact Steps.refl _)
      have c4 : Steps p.tables e below (s₁.setTop (entryFrame m #[.ref b, .int (Int32.ofNat o), .ref d, .int (Int32.ofNat q), .int (Int32.ofNat len)] 7)) (Tl.setTop (mkF m 13 #[.val (.ref b), .val (.int (Int32.ofNat (o + i))), .val (.ref d), .val (.int (Int32.ofNat (q + i))), .val (.int (Int32.ofNat len)), .val (.int (Int32.ofNat i)), z] [.int (cv A (o + i))])) := c3.trans (by
        refine Xl.aget hexec hAl rfl (hA.get (i := o + i) (by omega)) rfl rfl (hb hbytes d12) ?_
        exact Steps.refl _)
      have c5 : Steps p.tables e below (s₁.setTop (entryFrame m #[.ref b, .int (Int32.ofNat o), .ref d, .int (Int32.ofNat q), .int (Int32.ofNat len)] 7)) (Tl.setTop (mkF m 15 #[.val (.ref b), .val (.int (Int32.ofNat (o + i))), .val (.ref d), .val (.int (Int32.ofNat (q + i))), .val (.int (Int32.ofNat len)), .val (.int (Int32.ofNat i)), .val (.int (cv A (o + i)))] [])) := c4.trans (by
        refine XS.istoreS Xl.here hexec rfl (hb hbytes d13) rfl rfl hz ?_
        exact Steps.refl _)
      have c6 : Steps p.tables e below (s₁.setTop (entryFrame m #[.ref b, .int (Int32.ofNat o), .ref d, .int (Int32.ofNat q), .int (Int32.ofNat len)] 7)) (Tl.setTop (mkF m 31 #[.val (.ref b), .val (.int (Int32.ofNat (o + i))), .val (.ref d), .val (.int (Int32.ofNat (q + i))), .val (.int (Int32.ofNat len)), .val (.int (Int32.ofNat i)), .val (.int (cv A (o + i)))] [.int (lo8 (cv A (o + i))), .int (Int32.ofNat (q + i)), .ref d])) := c5.trans (by
        refine XS.iload Xl.here hexec rfl (hb hbytes d15) rfl ?_
        refine sipushV Xl.here hexec rfl 255 (hb hbytes d17) (by decide) ?_
        refine XS.icmpYes Xl.here hexec rfl (pc0 := 20) rfl (hb hbytes d20) rfl (ii_le_t (hp i (by omega))) (by decide) rfl ?_
        refine XS.aloadN Xl.here hexec rfl (hb hbytes d26) rfl rfl ?_
        refine XS.iloadN Xl.here hexec rfl (hb hbytes d27) rfl ?_
        refine XS.iload Xl.here hexec rfl (hb hbytes d28) rfl ?_
        refine i2b Xl.here hexec rfl (hb hbytes d30) rfl ?_
        exact Steps.refl _)
      obtain ⟨T7, X7, p7, st7⟩ := Xl.aput hexec hBk rfl hlt rfl (fits_lo8 (cv A (o + i))) (g := (mkF m 31 #[.val (.ref b), .val (.int (Int32.ofNat (o + i))), .val (.ref d), .val (.int (Int32.ofNat (q + i))), .val (.int (Int32.ofNat len)), .val (.int (Int32.ofNat i)), .val (.int (cv A (o + i)))] [.int (lo8 (cv A (o + i))), .int (Int32.ofNat (q + i)), .ref d])) rfl (rest := []) rfl (hb hbytes d31)
      have c8 : Steps p.tables e below (s₁.setTop (entryFrame m #[.ref b, .int (Int32.ofNat o), .ref d, .int (Int32.ofNat q), .int (Int32.ofNat len)] 7)) (T7.setTop (mkF m 32 #[.val (.ref b), .val (.int (Int32.ofNat (o + i))), .val (.ref d), .val (.int (Int32.ofNat (q + i))), .val (.int (Int32.ofNat len)), .val (.int (Int32.ofNat i)), .val (.int (cv A (o + i)))] [])) := c6.trans (st7 _ (Steps.refl _))
      have c9 : Steps p.tables e below (s₁.setTop (entryFrame m #[.ref b, .int (Int32.ofNat o), .ref d, .int (Int32.ofNat q), .int (Int32.ofNat len)] 7)) (T7.setTop (mkF m 3 #[.val (.ref b), .val (.int (Int32.ofNat (o + i) + 1)), .val (.ref d), .val (.int (Int32.ofNat (q + i) + 1)), .val (.int (Int32.ofNat len)), .val (.int (Int32.ofNat i + 1)), .val (.int (cv A (o + i)))] [])) := c8.trans (by
        refine iincV X7.here hexec rfl 1 (hb hbytes d32) (by decide) rfl rfl ?_
        refine iincV X7.here hexec rfl 1 (hb hbytes d35) (by decide) rfl rfl ?_
        refine iincV X7.here hexec rfl 1 (hb hbytes d38) (by decide) rfl rfl ?_
        refine XS.goto X7.here hexec rfl (pc0 := 41) rfl (hb hbytes d41) (by decide) rfl ?_
        exact Steps.refl _)
      have c10 : Steps p.tables e below (s₁.setTop (entryFrame m #[.ref b, .int (Int32.ofNat o), .ref d, .int (Int32.ofNat q), .int (Int32.ofNat len)] 7)) (T7.setTop (mkF m 3 #[.val (.ref b), .val (.int (Int32.ofNat (o + (i + 1)))), .val (.ref d), .val (.int (Int32.ofNat (q + (i + 1)))), .val (.int (Int32.ofNat len)), .val (.int (Int32.ofNat (i + 1))), .val (.int (cv A (o + i)))] [])) := by
        have := c9
        rw [succ32, succ32, succ32] at this
        exact this
      exact ih (i + 1) (by omega) _ (Or.inr ⟨_, rfl, rfl⟩) T7 _ (by rw [copyLocs_step, ← List.append_assoc]; exact X7) (pl.trans p7) (fl.step (by omega) hlt (by simp)) c10
  obtain ⟨T9, B9, z9, X9, p9, f9, g9⟩ := loop len 0 (by omega) .unset (Or.inl rfl) s₁ B (by simpa [copyLocs] using X0) ⟨hB0.1, fun _ _ => rfl, rfl⟩ (Laid.zero _ _ _) c2
  have c11 : Steps p.tables e below (s₁.setTop (entryFrame m #[.ref b, .int (Int32.ofNat o), .ref d, .int (Int32.ofNat q), .int (Int32.ofNat len)] 7)) (T9.setTop (mkF m 46 #[.val (.ref b), .val (.int (Int32.ofNat (o + len))), .val (.ref d), .val (.int (Int32.ofNat (q + len))), .val (.int (Int32.ofNat len)), .val (.int (Int32.ofNat len)), z9] [.int (Int32.ofNat len)])) := g9.trans (by
    refine XS.iload X9.here hexec rfl (hb hbytes d3) rfl ?_
    refine XS.iload X9.here hexec rfl (hb hbytes d5) rfl ?_
    refine XS.icmpYes X9.here hexec rfl (pc0 := 7) rfl (hb hbytes d7) rfl (ii_ge_t (nlt32 (by omega) (Nat.le_refl _))) (by decide) rfl ?_
    refine XS.iload X9.here hexec rfl (hb hbytes d44) rfl ?_
    exact Steps.refl _)
  exact ⟨T9, some (.int (Int32.ofNat len)), _, _, _, X9, by simp, rfl, rfl, (fun h => by cases h), ⟨rfl, B9, p9.from hh0, f9⟩, fun fs hl => c11.trans (X9.ireturnOut hexec hret rfl (Or.inl rfl) (hb hbytes d46) hl)⟩
end Cmp5
namespace Cmp3
def yN : MethodName := ⟨"java/lang/StringUTF16", "compress", "([CII)[B"⟩
abbrev yB : ByteArray := jdk_52_method_16_code
theorem d0 : decode yB 0 = .ok (.iload_n 2, 1) := by decide +kernel
theorem d1 : decode yB 1 = .ok (.newarray .byte, 2) := by decide +kernel
theorem d3 : decode yB 3 = .ok (.astore_n 3, 1) := by decide +kernel
theorem d4 : decode yB 4 = .ok (.aload_n 0, 1) := by decide +kernel
theorem d5 : decode yB 5 = .ok (.iload_n 1, 1) := by decide +kernel
theorem d6 : decode yB 6 = .ok (.aload_n 3, 1) := by decide +kernel
theorem d7 : decode yB 7 = .ok (.iconst 0, 1) := by decide +kernel
theorem d8 : decode yB 8 = .ok (.iload_n 2, 1) := by decide +kernel
theorem d9 : decode yB 9 = .ok (.invokestatic 115, 3) := by decide +kernel
theorem d12 : decode yB 12 = .ok (.istore 4, 2) := by decide +kernel
theorem d14 : decode yB 14 = .ok (.iload 4, 2) := by decide +kernel
theorem d16 : decode yB 16 = .ok (.iload_n 2, 1) := by decide +kernel
theorem d17 : decode yB 17 = .ok (.if_icmp (.eq) 40, 3) := by decide +kernel
theorem d57 : decode yB 57 = .ok (.aload_n 3, 1) := by decide +kernel
theorem d58 : decode yB 58 = .ok (.areturn, 1) := by decide +kernel
def site : List Cond := [.arrayClass .byte, Cmp5.tab] ++ staticW U16 115 Cmp5.yN
def tab : Cond := tabOf yN yB 6 (some (.array .byte)) site
def P (b : Addr) (A : Cell) (o len : Nat) (args : Array Value) (s : State) : Prop := args = #[.ref b, .int (Int32.ofNat o), .int (Int32.ofNat len)] ∧ Ch b A s ∧ o + len ≤ A.slots.size ∧ len ≤ 536870912 ∧ ∀ i, i < len → ¬ 255 < cv A (o + i)
def E (b : Addr) (A : Cell) (o len : Nat) (r : Option Value) (s u : State) : Prop := NewArr .byte "[B" len (fun j => .int (lo8 (cv A (o + j)))) r s u ∧ u.heap.size = s.heap.size + 1
/-- no char of the range above 255: a new byte[] of their low bytes -/
theorem law (l : Launch) (b : Addr) (A : Cell) (o len : Nat) : Law l yN 3 3 1 18 yB 6 (some (.array .byte)) site (P b A o len) (E b A o len) [] 1 len := by
  refine Law.of_walk (plainFor_of_name (by decide +kernel)) (by decide +kernel) (by decide +kernel) (by decide) (fun _ _ h => by rw [h.1]; rfl) (fun _ U U' hal hh h => ⟨h.1, h.2.1.mv hal hh, h.2.2⟩) (fun r U U' V V' h1 hal h2 h => ⟨NewArr.mv r U U' V V' h1 hal h2 h.1, by rw [h1, h2]; exact h.2⟩) ?_
  intro p e s m args below meth c s₁ X0 hexec hbytes hml hret hlk hnm hown hh0 W hP
  obtain ⟨rfl, hA, l1, l2, hp⟩ := hP
  have a31 := hA.1.2.2.2
  have c1 : Steps p.tables e below (s₁.setTop (entryFrame m #[.ref b, .int (Int32.ofNat o), .int (Int32.ofNat len)] 6)) (s₁.setTop (mkF m 0 #[.val (.ref b), .val (.int (Int32.ofNat o)), .val (.int (Int32.ofNat len)), .unset, .unset, .unset] [])) := entry rfl
  have c2 : Steps p.tables e below (s₁.setTop (entryFrame m #[.ref b, .int (Int32.ofNat o), .int (Int32.ofNat len)] 6)) (s₁.setTop (mkF m 1 #[.val (.ref b), .val (.int (Int32.ofNat o)), .val (.int (Int32.ofNat len)), .unset, .unset, .unset] [.int (Int32.ofNat len)])) := c1.trans (by
    refine XS.iloadN X0.here hexec rfl (hb hbytes d0) rfl ?_
    exact Steps.refl _)
  obtain ⟨T3, B3, X3, ba3, bs3, bv3, bh3, bf3, st3⟩ := X0.anew hexec (atype := .byte) (wk W (.arrayClass .byte)) rfl (by show len * 1 ≤ _; omega) (by omega) (g := (mkF m 1 #[.val (.ref b), .val (.int (Int32.ofNat o)), .val (.int (Int32.ofNat len)), .unset, .unset, .unset] [.int (Int32.ofNat len)])) rfl (hb hbytes d1) (rest := []) rfl (Nat.le_refl _) (by show 0 + len ≤ len; omega)
  rw [hh0] at ba3 st3
  have kp3 : XT.Kept s T3 := (XT.Kept.of_eq hh0).push bh3
  have hA3 := hA.keep X3.warmed.alike (kp3 _ _ hA.1.1)
  have hne : b ≠ s.heap.size := hA.1.ne
  have c4 : Steps p.tables e below (s₁.setTop (entryFrame m #[.ref b, .int (Int32.ofNat o), .int (Int32.ofNat len)] 6)) (T3.setTop (mkF m 3 #[.val (.ref b), .val (.int (Int32.ofNat o)), .val (.int (Int32.ofNat len)), .unset, .unset, .unset] [.ref s.heap.size])) := c2.trans (st3 _ (Steps.refl _))
  have c5 : Steps p.tables e below (s₁.setTop (entryFrame m #[.ref b, .int (Int32.ofNat o), .int (Int32.ofNat len)] 6)) (T3.setTop (mkF m 9 #[.val (.ref b), .val (.int (Int32.ofNat o)), .val (.int (Int32.ofNat len)), .val (.ref s.heap.size), .unset, .unset] [.int (Int32.ofNat len), .int 0, .ref s.heap.size, .int (Int32.ofNat o), .ref b])) := c4.trans (by
    refine XS.astoreN X3.here hexec rfl (hb hbytes d3) rfl rfl rfl ?_
    refine XS.aloadN X3.here hexec rfl (hb hbytes d4) rfl rfl ?_
    refine XS.iloadN X3.here hexec rfl (hb hbytes d5) rfl ?_
    refine XS.aloadN X3.here hexec rfl (hb hbytes d6) rfl rfl ?_
    refine iconstV X3.here hexec rfl 0 (hb hbytes d7) (by decide) ?_
    refine XS.iloadN X3.here hexec rfl (hb hbytes d8) rfl ?_
    exact Steps.refl _)
  obtain ⟨v6, T6, X6, E6, g6⟩ := X3.callS hexec (Cmp5.law l b A s.heap.size B3 o 0 len) hown (wks W (staticW U16 115 Cmp5.yN)) (wk W Cmp5.tab) (W := 0) (Nat.le_of_ble_eq_true rfl) (Nat.le_of_ble_eq_true rfl) (Nat.le_refl _) (by show 0 + len + 0 ≤ len; omega) (g := (mkF m 9 #[.val (.ref b), .val (.int (Int32.ofNat o)), .val (.int (Int32.ofNat len)), .val (.ref s.heap.size), .unset, .unset] [.int (Int32.ofNat len), .int (Int32.ofNat 0), .ref s.heap.size, .int (Int32.ofNat o), .ref b])) rfl (by rw [hml]; rfl) c5 (argsL := [.ref b, .int (Int32.ofNat o), .ref s.heap.size, .int (Int32.ofNat 0), .int (Int32.ofNat len)]) (rest := []) rfl rfl (by show 2 * 0 + 0 ≤ _; decide) (hb hbytes d9) (⟨rfl, hA3, ba3, hne, l1, by rw [bs3]; simp, hp⟩)
  obtain ⟨rfl, B6, p6, f6⟩ := E6
  have c7 : Steps p.tables e below (s₁.setTop (entryFrame m #[.ref b, .int (Int32.ofNat o), .int (Int32.ofNat len)] 6)) (T6.setTop (mkF m 12 #[.val (.ref b), .val (.int (Int32.ofNat o)), .val (.int (Int32.ofNat len)), .val (.ref s.heap.size), .unset, .unset] [.int (Int32.ofNat len)])) := g6
  have c8 : Steps p.tables e below (s₁.setTop (entryFrame m #[.ref b, .int (Int32.ofNat o), .int (Int32.ofNat len)] 6)) (T6.setTop (mkF m 58 #[.val (.ref b), .val (.int (Int32.ofNat o)), .val (.int (Int32.ofNat len)), .val (.ref s.heap.size), .val (.int (Int32.ofNat len)), .unset] [.ref s.heap.size])) := c7.trans (by
    refine XS.istore X6.here hexec rfl (hb hbytes d12) rfl rfl ?_
    refine XS.iload X6.here hexec rfl (hb hbytes d14) rfl ?_
    refine XS.iloadN X6.here hexec rfl (hb hbytes d16) rfl ?_
    refine XS.icmpYes X6.here hexec rfl (pc0 := 17) rfl (hb hbytes d17) rfl (ii_eq_t rfl) (by decide) rfl ?_
    refine XS.aloadN X6.here hexec rfl (hb hbytes d57) rfl rfl ?_
    exact Steps.refl _)
  have X8 := X6.wide (L' := []) (cells' := 1) (slots' := len) (fun x hx hlt => by
    simp only [List.nil_append, copyLocs, List.mem_map, List.mem_range] at hx
    obtain ⟨i, -, rfl⟩ := hx
    exact absurd hlt (Nat.lt_irrefl _)) (Nat.le_refl _) (by omega)
  exact ⟨T6, some (.ref s.heap.size), _, _, _, X8, rfl, rfl, rfl, (fun h => by cases h), ⟨⟨rfl, B6, ba3.like (X3.warmed.alike.symm.trans X6.warmed.alike) p6.1 f6.1 f6.2.1 f6.2.2.1, f6.2.1.trans bv3, by rw [X6.warmed.alike.findClass, f6.1]; exact bf3, by rw [f6.2.2.1, bs3]; simp, fun j hj => by rw [f6.2.2.2 j, if_pos (by omega)]; rfl, kp3.put p6 (Nat.le_refl _)⟩, by rw [p6.2.2, bh3, hh0]; simp⟩, fun fs hl => c8.trans (X8.areturnOut hexec rfl hret rfl (hb hbytes d58) hl)⟩
end Cmp3
namespace CodL
def yN : MethodName := ⟨"java/lang/StringUTF16", "coderFromArrayLen", "([BI)B"⟩
abbrev yB : ByteArray := jdk_52_method_15_code
theorem d0 : decode yB 0 = .ok (.iload_n 1, 1) := by decide +kernel
theorem d1 : decode yB 1 = .ok (.aload_n 0, 1) := by decide +kernel
theorem d2 : decode yB 2 = .ok (.arraylength, 1) := by decide +kernel
theorem d3 : decode yB 3 = .ok (.isub, 1) := by decide +kernel
theorem d4 : decode yB 4 = .ok (.bipush 31, 2) := by decide +kernel
theorem d6 : decode yB 6 = .ok (.iushr, 1) := by decide +kernel
theorem d7 : decode yB 7 = .ok (.i2b, 1) := by decide +kernel
theorem d8 : decode yB 8 = .ok (.ireturn, 1) := by decide +kernel
def site : List Cond := []
def tab : Cond := tabOf yN yB 2 (some .byte) site
def P (d : Addr) (B : Cell) (args : Array Value) (s : State) : Prop := args = #[.ref d, .int (Int32.ofNat B.slots.size)] ∧ Arr .byte d B s
def E (r : Option Value) (s u : State) : Prop := XT.PureE (some (.int 0)) r s u
/-- an array as long as the number of chars: LATIN1 -/
theorem law (l : Launch) (d : Addr) (B : Cell) : Law l yN 2 2 0 0 yB 2 (some .byte) site (P d B) E [] 0 0 := by
  refine Law.of_walk (plainFor_of_name (by decide +kernel)) (by decide +kernel) (by decide +kernel) (by decide) (fun _ _ h => by rw [h.1]; rfl) (fun _ U U' hal hh h => ⟨h.1, h.2.mv hal hh⟩) (fun r U U' V V' h1 hal h2 h => XT.PureE.mv r U U' V V' h1 hal h2 h) ?_
  intro p e s m args below meth c s₁ X0 hexec hbytes hml hret hlk hnm hown hh0 W hP
  obtain ⟨rfl, hB⟩ := hP
  have hB0 := hB.mv X0.warmed.alike hh0
  have c1 : Steps p.tables e below (s₁.setTop (entryFrame m #[.ref d, .int (Int32.ofNat B.slots.size)] 2)) (s₁.setTop (mkF m 0 #[.val (.ref d), .val (.int (Int32.ofNat B.slots.size))] [])) := entry rfl
  have c2 : Steps p.tables e below (s₁.setTop (entryFrame m #[.ref d, .int (Int32.ofNat B.slots.size)] 2)) (s₁.setTop (mkF m 2 #[.val (.ref d), .val (.int (Int32.ofNat B.slots.size))] [.ref d, .int (Int32.ofNat B.slots.size)])) := c1.trans (by
    refine XS.iloadN X0.here hexec rfl (hb hbytes d0) rfl ?_
    refine XS.aloadN X0.here hexec rfl (hb hbytes d1) rfl rfl ?_
    exact Steps.refl _)
  have c3 : Steps p.tables e below (s₁.setTop (entryFrame m #[.ref d, .int (Int32.ofNat B.slots.size)] 2)) (s₁.setTop (mkF m 8 #[.val (.ref d), .val (.int (Int32.ofNat B.slots.size))] [.int (lo8 (ushr (Int32.ofNat B.slots.size - Int32.ofNat B.slots.size) 31))])) := c2.trans (by
    refine X0.alen hexec hB0 rfl rfl (hb hbytes d2) ?_
    refine XS.isub X0.here hexec rfl (hb hbytes d3) rfl ?_
    refine bipushV X0.here hexec rfl 31 (hb hbytes d4) (by decide) ?_
    refine iushr X0.here hexec rfl (hb hbytes d6) rfl ?_
    refine i2b X0.here hexec rfl (hb hbytes d7) rfl ?_
    exact Steps.refl _)
  have e0 : lo8 (ushr (Int32.ofNat B.slots.size - Int32.ofNat B.slots.size) 31) = 0 := by rw [Int32.sub_self]; decide
  rw [e0] at c3
  exact ⟨s₁, some (.int 0), _, _, _, X0, rfl, rfl, rfl, (fun h => by cases h), ⟨rfl, hh0⟩, fun fs hl => c3.trans (X0.ireturnOut hexec hret rfl (Or.inr (Or.inr (Or.inl rfl))) (hb hbytes d8) hl)⟩
end CodL
/-- the String at a is Latin-1 over a new byte[] (the heap's one new cell): the low bytes of the len chars of A from o on; every cell but a is kept -/
def Got (a : Addr) (D : Cell) (fV fC : Field) (A : Cell) (o len : Nat) (r : Option Value) (s u : State) : Prop := r = none ∧ ∃ D' V : Cell, Blank "java/lang/String" a D' u ∧ Same D D' [fV.slot, fC.slot] ∧ D'.slots[fV.slot]? = some (.ref s.heap.size) ∧ D'.slots[fC.slot]? = some (.int 0) ∧ Arr .byte s.heap.size V u ∧ V.vm = .none ∧ u.vm.findClass "[B" = some V.cls ∧ V.slots.size = len ∧ (∀ j, j < len → V.slots[j]? = some (.int (lo8 (cv A (o + j))))) ∧ (∀ (y : Addr) (c : Cell), y ≠ a → s.heap[y]? = some c → u.heap[y]? = some c) ∧ u.heap.size = s.heap.size + 1
theorem Got.mv {a : Addr} {D A : Cell} {fV fC : Field} {o len : Nat} : ∀ r (U U' V V' : State), U'.heap = U.heap → V.vm.Alike V'.vm → V'.heap = V.heap → Got a D fV fC A o len r U V → Got a D fV fC A o len r U' V' :=
  fun r U U' V V' h1 hal h2 ⟨e0, D', X, a1, a2, a3, a4, a5, a6, a7, a8, a9, a10, a11⟩ => ⟨e0, D', X, a1.mv hal h2, a2, by rw [h1]; exact a3, a4, by rw [h1]; exact a5.mv hal h2, a6, by rw [hal.findClass]; exact a7, a8, a9, by rw [h1, h2]; exact a10, by rw [h1, h2]; exact a11⟩
namespace New4
def yN : MethodName := ⟨"java/lang/String", "<init>", "([CIILjava/lang/Void;)V"⟩
abbrev yB : ByteArray := jdk_42_method_149_code
theorem d0 : decode yB 0 = .ok (.aload_n 0, 1) := by decide +kernel
theorem d1 : decode yB 1 = .ok (.invokespecial 1, 3) := by decide +kernel
theorem d4 : decode yB 4 = .ok (.iload_n 3, 1) := by decide +kernel
theorem d5 : decode yB 5 = .ok (.ifCond (.ne) 22, 3) := by decide +kernel
theorem d27 : decode yB 27 = .ok (.getstatic 38, 3) := by decide +kernel
theorem d30 : decode yB 30 = .ok (.ifCond (.eq) 28, 3) := by decide +kernel
theorem d33 : decode yB 33 = .ok (.aload_n 1, 1) := by decide +kernel
theorem d34 : decode yB 34 = .ok (.iload_n 2, 1) := by decide +kernel
theorem d35 : decode yB 35 = .ok (.iload_n 3, 1) := by decide +kernel
theorem d36 : decode yB 36 = .ok (.invokestatic 177, 3) := by decide +kernel
theorem d39 : decode yB 39 = .ok (.astore 5, 2) := by decide +kernel
theorem d41 : decode yB 41 = .ok (.aload_n 0, 1) := by decide +kernel
theorem d42 : decode yB 42 = .ok (.aload 5, 2) := by decide +kernel
theorem d44 : decode yB 44 = .ok (.iload_n 3, 1) := by decide +kernel
theorem d45 : decode yB 45 = .ok (.invokestatic 47, 3) := by decide +kernel
theorem d48 : decode yB 48 = .ok (.putfield 15, 3) := by decide +kernel
theorem d51 : decode yB 51 = .ok (.aload_n 0, 1) := by decide +kernel
theorem d52 : decode yB 52 = .ok (.aload 5, 2) := by decide +kernel
theorem d54 : decode yB 54 = .ok (.putfield 9, 3) := by decide +kernel
theorem d57 : decode yB 57 = .ok (.return_, 1) := by decide +kernel
def site : List Cond := [.fieldLink "java/lang/String" 38 "java/lang/String" "COMPACT_STRINGS" "Z", Cmp3.tab, CodL.tab, .laysFinal "java/lang/String" "java/lang/String" "value" "[B", .fieldLink "java/lang/String" 9 "java/lang/String" "value" "[B", .laysFinal "java/lang/String" "java/lang/String" "coder" "B", .fieldLink "java/lang/String" 15 "java/lang/String" "coder" "B"] ++ objW "java/lang/String" 1 ++ staticW "java/lang/String" 177 Cmp3.yN ++ staticW "java/lang/String" 47 CodL.yN
def tab : Cond := tabOf yN yB 6 none site
def P (a : Addr) (D : Cell) (fV fC : Field) (b : Addr) (A : Cell) (z : Int32) (o len : Nat) (args : Array Value) (s : State) : Prop := args = #[.ref a, .ref b, .int (Int32.ofNat o), .int (Int32.ofNat len), .null] ∧ Blank "java/lang/String" a D s ∧ Found "java/lang/String" "value" "[B" fV s ∧ Found "java/lang/String" "coder" "B" fC s ∧ Ch b A s ∧ StaticIs s "java/lang/String" "COMPACT_STRINGS" "Z" (.int z) ∧ ¬ z = 0 ∧ 0 < len ∧ o + len ≤ A.slots.size ∧ len ≤ 536870912 ∧ ∀ i, i < len → ¬ 255 < cv A (o + i)
def E (a : Addr) (D : Cell) (fV fC : Field) (A : Cell) (o len : Nat) (r : Option Value) (s u : State) : Prop := Got a D fV fC A o len r s u
/-- len > 0, no char of the range above 255: a Latin-1 String of their low bytes -/
theorem law (l : Launch) (a : Addr) (D : Cell) (fV fC : Field) (b : Addr) (A : Cell) (z : Int32) (o len : Nat) : Law l yN 5 4 2 35 yB 6 none site (P a D fV fC b A z o len) (E a D fV fC A o len) [⟨a, fC.slot⟩, ⟨a, fV.slot⟩] 1 len := by
  refine Law.of_walk (plainFor_of_name (by decide +kernel)) (by decide +kernel) (by decide +kernel) (by decide) (fun _ _ h => by rw [h.1]; rfl) (fun _ U U' hal hh h => ⟨h.1, h.2.1.mv hal hh, h.2.2.1.al hal, h.2.2.2.1.al hal, h.2.2.2.2.1.mv hal hh, h.2.2.2.2.2.1.there hal hh, h.2.2.2.2.2.2⟩) (fun r U U' V V' h1 hal h2 h => Got.mv r U U' V V' h1 hal h2 h) ?_
  intro p e s m args below meth c s₁ X0 hexec hbytes hml hret hlk hnm hown hh0 W hP
  obtain ⟨rfl, hB, f1, f2, hA, s1, hz, l0, l1, l2, hp⟩ := hP
  have a31 := hA.1.2.2.2
  have c1 : Steps p.tables e below (s₁.setTop (entryFrame m #[.ref a, .ref b, .int (Int32.ofNat o), .int (Int32.ofNat len), .null] 6)) (s₁.setTop (mkF m 0 #[.val (.ref a), .val (.ref b), .val (.int (Int32.ofNat o)), .val (.int (Int32.ofNat len)), .val .null, .unset] [])) := entry rfl
  have c2 : Steps p.tables e below (s₁.setTop (entryFrame m #[.ref a, .ref b, .int (Int32.ofNat o), .int (Int32.ofNat len), .null] 6)) (s₁.setTop (mkF m 1 #[.val (.ref a), .val (.ref b), .val (.int (Int32.ofNat o)), .val (.int (Int32.ofNat len)), .val .null, .unset] [.ref a])) := c1.trans (by
    refine XS.aloadN X0.here hexec rfl (hb hbytes d0) rfl rfl ?_
    exact Steps.refl _)
  obtain ⟨T3, X3, q3, st3⟩ := X0.oinit hexec hown (wks W (objW "java/lang/String" 1)) (g := (mkF m 1 #[.val (.ref a), .val (.ref b), .val (.int (Int32.ofNat o)), .val (.int (Int32.ofNat len)), .val .null, .unset] [.ref a])) rfl (by rw [hml]; rfl) (rest := []) rfl (hb hbytes d1) (W := 0) (by show 2 * 0 + 0 ≤ _; decide) (Nat.le_of_ble_eq_true rfl) (Nat.le_of_ble_eq_true rfl)
  have hh3 := q3.trans hh0
  have c4 : Steps p.tables e below (s₁.setTop (entryFrame m #[.ref a, .ref b, .int (Int32.ofNat o), .int (Int32.ofNat len), .null] 6)) (T3.setTop (mkF m 27 #[.val (.ref a), .val (.ref b), .val (.int (Int32.ofNat o)), .val (.int (Int32.ofNat len)), .val .null, .unset] [])) := (c2.trans (st3 _ (Steps.refl _))).trans (by
    refine XS.iloadN X3.here hexec rfl (hb hbytes d4) rfl ?_
    refine XS.ifYes X3.here hexec rfl (pc0 := 5) rfl (hb hbytes d5) rfl (i0_ne_t (nz32 (by omega) l0)) (by decide) rfl ?_
    exact Steps.refl _)
  obtain ⟨T5, X5, q5, st5⟩ := X3.sget hexec hown (wk W (.fieldLink "java/lang/String" 38 "java/lang/String" "COMPACT_STRINGS" "Z")) s1 (fun _ _ h => by rw [hh3]; exact h) (g := (mkF m 27 #[.val (.ref a), .val (.ref b), .val (.int (Int32.ofNat o)), .val (.int (Int32.ofNat len)), .val .null, .unset] [])) rfl (hb hbytes d27)
  have hh5 := q5.trans hh3
  have c6 : Steps p.tables e below (s₁.setTop (entryFrame m #[.ref a, .ref b, .int (Int32.ofNat o), .int (Int32.ofNat len), .null] 6)) (T5.setTop (mkF m 30 #[.val (.ref a), .val (.ref b), .val (.int (Int32.ofNat o)), .val (.int (Int32.ofNat len)), .val .null, .unset] [.int z])) := c4.trans (st5 _ (Steps.refl _))
  have c7 : Steps p.tables e below (s₁.setTop (entryFrame m #[.ref a, .ref b, .int (Int32.ofNat o), .int (Int32.ofNat len), .null] 6)) (T5.setTop (mkF m 36 #[.val (.ref a), .val (.ref b), .val (.int (Int32.ofNat o)), .val (.int (Int32.ofNat len)), .val .null, .unset] [.int (Int32.ofNat len), .int (Int32.ofNat o), .ref b])) := c6.trans (by
    refine XS.ifNo X5.here hexec rfl (hb hbytes d30) rfl (i0_eq_f hz) ?_
    refine XS.aloadN X5.here hexec rfl (hb hbytes d33) rfl rfl ?_
    refine XS.iloadN X5.here hexec rfl (hb hbytes d34) rfl ?_
    refine XS.iloadN X5.here hexec rfl (hb hbytes d35) rfl ?_
    exact Steps.refl _)
  obtain ⟨v8, T8, X8, E8, g8⟩ := X5.callS hexec (Cmp3.law l b A o len) hown (wks W (staticW "java/lang/String" 177 Cmp3.yN)) (wk W Cmp3.tab) (W := 0) (Nat.le_of_ble_eq_true rfl) (Nat.le_of_ble_eq_true rfl) (Nat.le_refl _) (by show 0 + len ≤ len; omega) (g := (mkF m 36 #[.val (.ref a), .val (.ref b), .val (.int (Int32.ofNat o)), .val (.int (Int32.ofNat len)), .val .null, .unset] [.int (Int32.ofNat len), .int (Int32.ofNat o), .ref b])) rfl (by rw [hml]; rfl) c7 (argsL := [.ref b, .int (Int32.ofNat o), .int (Int32.ofNat len)]) (rest := []) rfl rfl (by show 2 * 0 + 0 ≤ _; decide) (hb hbytes d36) (⟨rfl, hA.mv X5.warmed.alike hh5, l1, l2, hp⟩)
  obtain ⟨e8, z8⟩ := E8
  obtain ⟨rfl, N, n1, n2, n3, n4, n5, n6⟩ := NewArr.mv _ T5 s _ _ hh5.symm (Vm.Alike.refl _) rfl e8
  rw [hh5] at z8
  have hB1 := hB.keep X8.warmed.alike (n6 _ _ hB.1)
  have hne : s.heap.size ≠ a := (Nat.ne_of_lt (Array.getElem?_eq_some_iff.mp hB.1).1).symm
  have c9 : Steps p.tables e below (s₁.setTop (entryFrame m #[.ref a, .ref b, .int (Int32.ofNat o), .int (Int32.ofNat len), .null] 6)) (T8.setTop (mkF m 39 #[.val (.ref a), .val (.ref b), .val (.int (Int32.ofNat o)), .val (.int (Int32.ofNat len)), .val .null, .unset] [.ref s.heap.size])) := g8
  have c10 : Steps p.tables e below (s₁.setTop (entryFrame m #[.ref a, .ref b, .int (Int32.ofNat o), .int (Int32.ofNat len), .null] 6)) (T8.setTop (mkF m 45 #[.val (.ref a), .val (.ref b), .val (.int (Int32.ofNat o)), .val (.int (Int32.ofNat len)), .val .null, .val (.ref s.heap.size)] [.int (Int32.ofNat N.slots.size), .ref s.heap.size, .ref a])) := by
    have hc : Steps p.tables e below (s₁.setTop (entryFrame m #[.ref a, .ref b, .int (Int32.ofNat o), .int (Int32.ofNat len), .null] 6)) (T8.setTop (mkF m 45 #[.val (.ref a), .val (.ref b), .val (.int (Int32.ofNat o)), .val (.int (Int32.ofNat len)), .val .null, .val (.ref s.heap.size)] [.int (Int32.ofNat len), .ref s.heap.size, .ref a])) := c9.trans (by
      refine XS.astore X8.here hexec rfl (hb hbytes d39) rfl rfl rfl ?_
      refine XS.aloadN X8.here hexec rfl (hb hbytes d41) rfl rfl ?_
      refine XS.aload X8.here hexec rfl (hb hbytes d42) rfl rfl ?_
      refine XS.iloadN X8.here hexec rfl (hb hbytes d44) rfl ?_
      exact Steps.refl _)
    rw [n4]; exact hc
  obtain ⟨v11, T11, X11, E11, g11⟩ := X8.callS hexec (CodL.law l s.heap.size N) hown (wks W (staticW "java/lang/String" 47 CodL.yN)) (wk W CodL.tab) (W := 1) (Nat.le_of_ble_eq_true rfl) (Nat.le_of_ble_eq_true rfl) (Nat.le_refl _) (by show 0 + len + 0 ≤ len; omega) (g := (mkF m 45 #[.val (.ref a), .val (.ref b), .val (.int (Int32.ofNat o)), .val (.int (Int32.ofNat len)), .val .null, .val (.ref s.heap.size)] [.int (Int32.ofNat N.slots.size), .ref s.heap.size, .ref a])) rfl (by rw [hml]; rfl) c10 (argsL := [.ref s.heap.size, .int (Int32.ofNat N.slots.size)]) (rest := [.ref a]) rfl rfl (by show 2 * 0 + (1 + 0) ≤ _; decide) (hb hbytes d45) (⟨rfl, n1⟩)
  obtain ⟨rfl, q11⟩ := E11
  have hB11 := hB1.mv (X8.warmed.alike.symm.trans X11.warmed.alike) q11
  have c12 : Steps p.tables e below (s₁.setTop (entryFrame m #[.ref a, .ref b, .int (Int32.ofNat o), .int (Int32.ofNat len), .null] 6)) (T11.setTop (mkF m 48 #[.val (.ref a), .val (.ref b), .val (.int (Int32.ofNat o)), .val (.int (Int32.ofNat len)), .val .null, .val (.ref s.heap.size)] [.int 0, .ref a])) := g11
  obtain ⟨T13, X13, p13, bl13, sl13, st13⟩ := X11.finit hexec hown (wk W (.fieldLink "java/lang/String" 15 "java/lang/String" "coder" "B")) (Or.inr ⟨_, (wk W (.laysFinal "java/lang/String" "java/lang/String" "coder" "B"))⟩) (Or.inl ⟨rfl, hnm⟩) f2 (Or.inl rfl) hB11 (t := .byte) (by decide +kernel) rfl (g := (mkF m 48 #[.val (.ref a), .val (.ref b), .val (.int (Int32.ofNat o)), .val (.int (Int32.ofNat len)), .val .null, .val (.ref s.heap.size)] [.int 0, .ref a])) rfl (rest := []) rfl (hb hbytes d48)
  have c14 : Steps p.tables e below (s₁.setTop (entryFrame m #[.ref a, .ref b, .int (Int32.ofNat o), .int (Int32.ofNat len), .null] 6)) (T13.setTop (mkF m 54 #[.val (.ref a), .val (.ref b), .val (.int (Int32.ofNat o)), .val (.int (Int32.ofNat len)), .val .null, .val (.ref s.heap.size)] [.ref s.heap.size, .ref a])) := (c12.trans (st13 _ (Steps.refl _))).trans (by
    refine XS.aloadN X13.here hexec rfl (hb hbytes d51) rfl rfl ?_
    refine XS.aload X13.here hexec rfl (hb hbytes d52) rfl rfl ?_
    exact Steps.refl _)
  obtain ⟨T15, X15, p15, bl15, sl15, st15⟩ := X13.finit hexec hown (wk W (.fieldLink "java/lang/String" 9 "java/lang/String" "value" "[B")) (Or.inr ⟨_, (wk W (.laysFinal "java/lang/String" "java/lang/String" "value" "[B"))⟩) (Or.inl ⟨rfl, hnm⟩) f1 (Or.inl rfl) bl13 (t := (.array .byte)) (by decide +kernel) rfl (g := (mkF m 54 #[.val (.ref a), .val (.ref b), .val (.int (Int32.ofNat o)), .val (.int (Int32.ofNat len)), .val .null, .val (.ref s.heap.size)] [.ref s.heap.size, .ref a])) rfl (rest := []) rfl (hb hbytes d54)
  have c16 : Steps p.tables e below (s₁.setTop (entryFrame m #[.ref a, .ref b, .int (Int32.ofNat o), .int (Int32.ofNat len), .null] 6)) (T15.setTop (mkF m 57 #[.val (.ref a), .val (.ref b), .val (.int (Int32.ofNat o)), .val (.int (Int32.ofNat len)), .val .null, .val (.ref s.heap.size)] [])) := c14.trans (st15 _ (Steps.refl _))
  have ap := apart (Or.inr ⟨_, (wk W (.laysFinal "java/lang/String" "java/lang/String" "value" "[B"))⟩) (Or.inr ⟨_, (wk W (.laysFinal "java/lang/String" "java/lang/String" "coder" "B"))⟩) f1 f2 (t₁ := .array .byte) (t₂ := .byte) (by decide +kernel) (by decide +kernel) (by decide)
  have al := X8.warmed.alike.symm.trans X15.warmed.alike
  have n7 : T11.heap[s.heap.size]? = some N := by rw [q11]; exact n1.1
  exact ⟨T15, none, _, _, _, X15, by simp, rfl, by omega, (fun _ => rfl), ⟨rfl, _, N, bl15, ((Same.refl D _).set _ (by simp)).set _ (by simp), sl15, (Cell.slots_setSlot_ne _ ap).trans sl13, n1.keep al (p15.other hne (p13.other hne n7)), n2, by rw [al.findClass]; exact n3, n4, n5, fun y c h1 h2 => p15.other h1 (p13.other h1 (by rw [q11]; exact n6 y c h2)), by rw [p15.2.2, p13.2.2, q11]; exact z8⟩, fun fs hl => c16.trans (X15.returnOut hexec hret (hb hbytes d57) hl)⟩
end New4
namespace New1
def yN : MethodName := ⟨"java/lang/String", "<init>", "([C)V"⟩
abbrev yB : ByteArray := jdk_42_method_3_code
theorem d0 : decode yB 0 = .ok (.aload_n 0, 1) := by decide +kernel
theorem d1 : decode yB 1 = .ok (.aload_n 1, 1) := by decide +kernel
theorem d2 : decode yB 2 = .ok (.iconst 0, 1) := by decide +kernel
theorem d3 : decode yB 3 = .ok (.aload_n 1, 1) := by decide +kernel
theorem d4 : decode yB 4 = .ok (.arraylength, 1) := by decide +kernel
theorem d5 : decode yB 5 = .ok (.aconst_null, 1) := by decide +kernel
theorem d6 : decode yB 6 = .ok (.invokespecial 27, 3) := by decide +kernel
theorem d9 : decode yB 9 = .ok (.return_, 1) := by decide +kernel
def site : List Cond := [New4.tab] ++ initW "java/lang/String" 27 New4.yN
def tab : Cond := tabOf yN yB 2 none site
def P (a : Addr) (D : Cell) (fV fC : Field) (b : Addr) (A : Cell) (z : Int32) (args : Array Value) (s : State) : Prop := args = #[.ref a, .ref b] ∧ Blank "java/lang/String" a D s ∧ Found "java/lang/String" "value" "[B" fV s ∧ Found "java/lang/String" "coder" "B" fC s ∧ Ch b A s ∧ StaticIs s "java/lang/String" "COMPACT_STRINGS" "Z" (.int z) ∧ ¬ z = 0 ∧ 0 < A.slots.size ∧ A.slots.size ≤ 536870912 ∧ ∀ i, i < A.slots.size → ¬ 255 < cv A i
def E (a : Addr) (D : Cell) (fV fC : Field) (A : Cell) (r : Option Value) (s u : State) : Prop := Got a D fV fC A 0 A.slots.size r s u
/-- new String(chars), not empty, no char above 255: a Latin-1 String of their low bytes -/
theorem law (l : Launch) (a : Addr) (D : Cell) (fV fC : Field) (b : Addr) (A : Cell) (z : Int32) : Law l yN 2 1 3 52 yB 2 none site (P a D fV fC b A z) (E a D fV fC A) [⟨a, fC.slot⟩, ⟨a, fV.slot⟩] 1 A.slots.size := by
  refine Law.of_walk (plainFor_of_name (by decide +kernel)) (by decide +kernel) (by decide +kernel) (by decide) (fun _ _ h => by rw [h.1]; rfl) (fun _ U U' hal hh h => ⟨h.1, h.2.1.mv hal hh, h.2.2.1.al hal, h.2.2.2.1.al hal, h.2.2.2.2.1.mv hal hh, h.2.2.2.2.2.1.there hal hh, h.2.2.2.2.2.2⟩) (fun r U U' V V' h1 hal h2 h => Got.mv r U U' V V' h1 hal h2 h) ?_
  intro p e s m args below meth c s₁ X0 hexec hbytes hml hret hlk hnm hown hh0 W hP
  obtain ⟨rfl, hB, f1, f2, hA, s1, hz, l0, l2, hp⟩ := hP
  have c1 : Steps p.tables e below (s₁.setTop (entryFrame m #[.ref a, .ref b] 2)) (s₁.setTop (mkF m 0 #[.val (.ref a), .val (.ref b)] [])) := entry rfl
  have c2 : Steps p.tables e below (s₁.setTop (entryFrame m #[.ref a, .ref b] 2)) (s₁.setTop (mkF m 6 #[.val (.ref a), .val (.ref b)] [.null, .int (Int32.ofNat A.slots.size), .int 0, .ref b, .ref a])) := c1.trans (by
    refine XS.aloadN X0.here hexec rfl (hb hbytes d0) rfl rfl ?_
    refine XS.aloadN X0.here hexec rfl (hb hbytes d1) rfl rfl ?_
    refine iconstV X0.here hexec rfl 0 (hb hbytes d2) (by decide) ?_
    refine XS.aloadN X0.here hexec rfl (hb hbytes d3) rfl rfl ?_
    refine X0.alen hexec (hA.1.mv X0.warmed.alike hh0) rfl rfl (hb hbytes d4) ?_
    refine XS.aconstNull X0.here hexec rfl (hb hbytes d5) ?_
    exact Steps.refl _)
  obtain ⟨v3, T3, X3, E3, g3⟩ := X0.callN hexec (New4.law l a D fV fC b A z 0 A.slots.size) rfl hown (wks W (initW "java/lang/String" 27 New4.yN)) (W New4.tab (by simp only [site, List.mem_cons, List.mem_append, true_or, or_true])) (W := 0) (Nat.le_of_ble_eq_true rfl) (Nat.le_of_ble_eq_true rfl) (Nat.le_refl _) (by show 0 + A.slots.size ≤ A.slots.size; omega) (g := (mkF m 6 #[.val (.ref a), .val (.ref b)] [.null, .int (Int32.ofNat A.slots.size), .int (Int32.ofNat 0), .ref b, .ref a])) rfl (by rw [hml]; rfl) c2 (argsL := [.ref b, .int (Int32.ofNat 0), .int (Int32.ofNat A.slots.size), .null]) (rest := []) rfl rfl (by show 2 * 0 + 0 ≤ _; decide) (hb hbytes d6) (⟨rfl, hB.mv X0.warmed.alike hh0, f1.al X0.warmed.alike, f2.al X0.warmed.alike, hA.mv X0.warmed.alike hh0, s1.there X0.warmed.alike hh0, hz, l0, by omega, l2, fun i hi => by rw [Nat.zero_add]; exact hp i hi⟩)
  have e0 := Got.mv _ s₁ s _ _ hh0.symm (Vm.Alike.refl _) rfl E3
  obtain rfl := e0.1
  have c4 : Steps p.tables e below (s₁.setTop (entryFrame m #[.ref a, .ref b] 2)) (T3.setTop (mkF m 9 #[.val (.ref a), .val (.ref b)] [])) := g3
  exact ⟨T3, none, _, _, _, X3, by simp, rfl, by omega, (fun _ => rfl), e0, fun fs hl => c4.trans (X3.returnOut hexec hret (hb hbytes d9) hl)⟩
theorem pays {l : Launch} {R : Room} {p : Program} {e : Env} {below : List Frame} {s : State} {sargs : Array Value} {len W : Nat} (a : Addr) (D : Cell) (fV fC : Field) (b : Addr) (A : Cell) (z : Int32) (htab : tab.before sargs s = true) (hfr : 4 ≤ R.frames) (hlo : W + 65 ≤ R.locals) :
    Back l R p e below s sargs yN len W (fun A₁ a₁ => A₁.cells + 1 ≤ R.cells ∧ A₁.slots + A.slots.size ≤ R.slots ∧ P a D fV fC b A z a₁ A₁.U) (fun A₁ _ v₁ B₁ => E a D fV fC A v₁ A₁.U B₁.U ∧ B₁.locs = A₁.locs ++ [⟨a, fC.slot⟩, ⟨a, fV.slot⟩] ∧ B₁.cells = A₁.cells + 1 ∧ B₁.slots = A₁.slots + A.slots.size) :=
  (law l a D fV fC b A z).pays htab hfr (by omega)
end New1
/-- the byte, read back as charAt reads it, is the char -/
theorem lo8_mask {x : Int32} (h0 : ¬ x < 0) (h1 : ¬ 255 < x) : lo8 x &&& 255 = x := by
  have t : ∀ k : Fin 256, lo8 (Int32.ofNat k.val) &&& 255 = Int32.ofNat k.val := by decide +kernel
  rw [Int32.lt_iff_toInt_lt] at h0 h1
  have e0 : (0 : Int32).toInt = 0 := rfl
  have e1 : (255 : Int32).toInt = 255 := rfl
  obtain ⟨k, hk⟩ : ∃ k : Nat, x.toInt = k := ⟨x.toInt.toNat, by omega⟩
  have hx : x = Int32.ofNat k := Int32.toInt_inj.mp (by rw [hk, Int32.toInt_ofNat_small (by omega)])
  rw [hx]
  exact t ⟨k, by omega⟩
end StrChars
namespace StrChars.Road
open Jvm Sem ClassFile Op Lib Jvm.Stand Jvm.Free Jvm.Free.XT
open Jvm.Lib.Cold (StaticIs)
abbrev ST : String := "java/lang/String"
/-- every table word that New1's law asks, flat -/
abbrev words : List Jvm.Cond := [.code New1.yN New1.yB 2 none, .initialized ST, .methodLink ST 27 New4.yN, .instanceMethod New4.yN,
  .code New4.yN New4.yB 6 none, .fieldLink ST 38 ST "COMPACT_STRINGS" "Z", .laysFinal ST ST "value" "[B", .fieldLink ST 9 ST "value" "[B", .laysFinal ST ST "coder" "B", .fieldLink ST 15 ST "coder" "B",
  .methodLink ST 1 Lib.objectInit, .instanceMethod Lib.objectInit, .code Lib.objectInit ⟨#[0xb1]⟩ 1 none, .methodLink ST 177 Cmp3.yN, .static Cmp3.yN, .methodLink ST 47 CodL.yN, .static CodL.yN,
  .code Cmp3.yN Cmp3.yB 6 (some (.array .byte)), .initialized U16, .arrayClass .byte, .methodLink U16 115 Cmp5.yN, .static Cmp5.yN, .code Cmp5.yN Cmp5.yB 7 (some .int), .code CodL.yN CodL.yB 2 (some .byte)]
theorem tab_of {a : Array Value} {s : State} (h : ∀ w ∈ words, w.before a s = true) : New1.tab.before a s = true := by
  have h5 : Cmp5.tab.before a s = true := unparts (wk h (.code Cmp5.yN Cmp5.yB 7 (some .int))) (wks h (.initialized Cmp5.yN.cls :: Cmp5.site))
  have hc : CodL.tab.before a s = true := unparts (wk h (.code CodL.yN CodL.yB 2 (some .byte))) (wks h (.initialized CodL.yN.cls :: CodL.site))
  have q5 : ∀ w ∈ Cmp5.tab :: words, w.before a s = true := fun w hw => (List.mem_cons.mp hw).elim (fun e => e ▸ h5) (h w)
  have h3 : Cmp3.tab.before a s = true := unparts (wk q5 (.code Cmp3.yN Cmp3.yB 6 (some (.array .byte)))) (wks q5 (.initialized Cmp3.yN.cls :: Cmp3.site))
  have q3 : ∀ w ∈ Cmp3.tab :: CodL.tab :: words, w.before a s = true := fun w hw => (List.mem_cons.mp hw).elim (fun e => e ▸ h3) fun hw => (List.mem_cons.mp hw).elim (fun e => e ▸ hc) (h w)
  have h4 : New4.tab.before a s = true := unparts (wk q3 (.code New4.yN New4.yB 6 none)) (wks q3 (.initialized New4.yN.cls :: New4.site))
  have q4 : ∀ w ∈ New4.tab :: words, w.before a s = true := fun w hw => (List.mem_cons.mp hw).elim (fun e => e ▸ h4) (h w)
  exact unparts (wk q4 (.code New1.yN New1.yB 2 none)) (wks q4 (.initialized New1.yN.cls :: New1.site))
/-- the words ride from the start Z to the walk's own state -/
theorem moved {Z s : State} {a0 args : Array Value} (hZ : Z.Warmed39 s.vm) (hw : ∀ d ∈ words, d.before a0 Z = true) : ∀ d ∈ words, d.before args s = true := fun d hd => by
  have q := hw d hd
  have t : ∀ d ∈ words, d = .arrayClass .byte ∨ (d.onTables && d.keepsFace) = true := by decide +kernel
  rcases t d hd with rfl | t
  · exact RoadKit.mvA hZ q
  · exact RoadKit.mv hZ q t
/-- WHAT COMES BACK, over the tables of the start Z: h the heap at the call, h' behind it -/
def Q (Z : State) (x : Addr) (A : Cell) (h : Heap) (v : Option Value) (h' : Heap) (L : List Loc) : Prop := v = none ∧ (∀ y ∈ L, y.base = x) ∧ RoadKit.Keep h h' [x] ∧ h'.size = h.size + 1 ∧ RoadKit.Exa Z h' x ST ∧ RoadKit.Fld Z h' x ST "value" "[B" (.ref h.size) ∧ RoadKit.Fld Z h' x ST "coder" "B" (.int 0) ∧
  (∃ V : Cell, RoadKit.Arr Z h' h.size V .byte ∧ V.vm = .none ∧ Z.vm.findClass "[B" = some V.cls ∧ V.slots.size = A.slots.size ∧ ∀ j, j < A.slots.size → V.slots[j]? = some (.int (lo8 (cv A j)))) ∧
  ∀ (O n d : String) (w : Value), RoadKit.Fld Z h x O n d w → RoadKit.slotOf Z O n d ≠ RoadKit.slotOf Z ST "value" "[B" → RoadKit.slotOf Z O n d ≠ RoadKit.slotOf Z ST "coder" "B" → RoadKit.Fld Z h' x O n d w
/-- **new String(chars) AT A CALL, IN THE ROAD'S FORM**: for specialBack behind newO: x the fresh String, b the char[] with the cell A -/
theorem back {p : Program} {l : Launch} {e : Env} {R : Room} {s : State} {args : Array Value} {below : List Frame} {len W : Nat} {Z : State} {a0 : Array Value} {h : Heap} (hZ : Z.Warmed39 s.vm) (hw : ∀ d ∈ words, d.before a0 Z = true) {kI : Nat} (wi : (Jvm.Cond.instantiable ST kI).before a0 Z = true)
    {x b : Addr} {A : Cell} {z : Int32} {v0 c0 : Value} (E : RoadKit.Exa Z h x ST) (V : RoadKit.Fld Z h x ST "value" "[B" v0) (C : RoadKit.Fld Z h x ST "coder" "B" c0) (K : RoadKit.Arr Z h b A .char) (hty : Typed .char A) (S : RoadKit.Sta Z h ST "COMPACT_STRINGS" "Z" (.int z)) (hz : ¬ z = 0)
    (l0 : 0 < A.slots.size) (l2 : A.slots.size ≤ 536870912) (hp : ∀ i, i < A.slots.size → ¬ 255 < cv A i) (hfr : 4 ≤ R.frames) (hlo : W + 65 ≤ R.locals) :
    Back l R p e below s args New1.yN len W (fun P a => a = #[.ref x, .ref b] ∧ P.U.heap = h ∧ P.cells + 1 ≤ R.cells ∧ P.slots + A.slots.size ≤ R.slots)
      (fun P _ v B => ∃ L, Q Z x A h v B.U.heap L ∧ B.locs = P.locs ++ L ∧ B.cells = P.cells + 1 ∧ B.slots = P.slots + A.slots.size) := by
  intro m meth c P g ig mk a X hg hsize hdg hW hn hp'
  obtain ⟨rfl, rfl, r1, r2⟩ := hp'
  have al : Z.vm.Alike P.U.vm := hZ.alike.trans X.warmed.alike
  obtain ⟨D, cfV, kV, iV, fV, hD, gV, stV, knV, obV, asV, slV⟩ := id V
  obtain ⟨D', cfC, kC, iC, fC, hD', gC, stC, -, -, asC, slC⟩ := id C
  cases hD.symm.trans hD'
  obtain ⟨D2, kD, e1, e2, e3, e4, e5⟩ := id E
  cases hD.symm.trans e1
  obtain ⟨c2, k2, i1, i2, i3, -⟩ := Cond.instantiable_spec wi
  cases e2.symm.trans i1
  cases e3.symm.trans i2
  obtain ⟨kU, u1, u2⟩ := al.2.2 _ _ e3
  have hB : Blank ST x D P.U := ⟨hD, ⟨knV, fun q hq => by rw [hq] at obV; cases obV⟩, by rw [al.findClass]; exact e2, kU, u1, by rw [u2]; exact i3, by rw [u2]; exact e5 i3⟩
  have F1 : Found ST "value" "[B" fV P.U := ⟨SBG.found_only al ⟨cfV, kV, iV, gV⟩, stV⟩
  have F2 : Found ST "coder" "B" fC P.U := ⟨SBG.found_only al ⟨cfC, kC, iC, gC⟩, stC⟩
  have hA : Ch b A P.U := ⟨⟨K.1, State.isArrayOf_alike al K.2.1, K.2.2, by omega⟩, hty⟩
  have hS : StaticIs P.U ST "COMPACT_STRINGS" "Z" (.int z) := by
    obtain ⟨cfS, iS, kS, fS, st, cS, t1, t2, t3, t4, t5, t6, t7⟩ := S
    exact StaticIs.there (s := { Z with heap := P.U.heap }) ⟨cfS, iS, kS, fS, st, cS, t1, t2, t3, t4, t5, (fun q => by rw [q] at t6; cases t6), t7⟩ al rfl
  obtain ⟨v, B, X', ⟨⟨hv, E', V', q1, q2, q3, q4, q5, q6, q7, q8, q9, q10, q11⟩, hl, hc, hs⟩, st⟩ := New1.pays x D fV fC b A z (tab_of (moved hZ hw)) hfr hlo m meth c P g ig mk _ X hg hsize hdg hW hn ⟨r1, r2, rfl, hB, F1, F2, hA, hS, hz, l0, l2, hp⟩
  have al' : Z.vm.Alike B.U.vm := hZ.alike.trans X'.warmed.alike
  have hsz : E'.slots.size = D.slots.size := by
    obtain ⟨-, -, -, kB, w1, w2, w3⟩ := q1
    obtain ⟨kB', y1, y2⟩ := al'.2.2 _ _ e3
    rw [q2.2.1] at w1
    cases w1.symm.trans y1
    rw [w3, e5 i3, y2]
  refine ⟨v, B, X', ⟨_, ⟨hv, ?_, ⟨by omega, fun y cy hy hn' => q10 y cy (by simpa using hn') hy, fun y cy hy => ?_⟩, q11, ⟨E', _, q1.1, by rw [q2.2.1]; exact e2, by rw [q2.2.1]; exact e3, by rw [q2.1]; exact obV, fun _ => by rw [hsz]; exact e5 i3⟩,
    ⟨E', cfV, kV, iV, fV, q1.1, gV, stV, by rw [q2.1]; exact knV, by rw [q2.1]; exact obV, by rw [q2.2.1]; exact asV, q3⟩, ⟨E', cfC, kC, iC, fC, q1.1, gC, stC, by rw [q2.1]; exact knV, by rw [q2.1]; exact obV, by rw [q2.2.1]; exact asC, q4⟩,
    ⟨V', ⟨q5.1, State.isArrayOf_alike al'.symm q5.2.1, q5.2.2.1⟩, q6, by rw [← al'.findClass]; exact q7, q8, fun j hj => by have := q9 j hj; rwa [Nat.zero_add] at this⟩, fun O n d w F n1 n2 => ?_⟩, hl, hc, hs⟩, st⟩
  · intro y hy
    simp only [List.mem_cons, List.not_mem_nil, or_false] at hy
    rcases hy with rfl | rfl <;> rfl
  · by_cases q : y = x
    · subst q
      cases hD.symm.trans hy
      exact ⟨E', q1.1, q2.2.1, q2.1, hsz⟩
    · exact ⟨cy, q10 y cy q hy, rfl, rfl, rfl⟩
  · obtain ⟨D3, cf, k, i, f, g1, g2, g3, g4, g5, g6, g7⟩ := F
    cases hD.symm.trans g1
    simp only [RoadKit.slotOf, g2, gV, gC, Option.map_some, Option.getD_some] at n1 n2
    exact ⟨E', cf, k, i, f, q1.1, g2, g3, by rw [q2.1]; exact g4, by rw [q2.1]; exact g5, by rw [q2.2.1]; exact g6, by rw [q2.2.2 f.slot (by simp [n1, n2])]; exact g7⟩
end StrChars.Road
namespace StrChars.Road
open Jvm Sem ClassFile Op Lib Jvm.Stand Jvm.Free Jvm.Free.XT
/-- WHAT COMES BACK, the byte[] as a list of values -/
def QA (Z : State) (x : Addr) (zn : Int32) (cs : List Int32) (h : Heap) (v : Option Value) (h' : Heap) (L : List Loc) : Prop := v = none ∧ (∀ y ∈ L, y.base = x) ∧ RoadKit.Keep h h' [x] ∧ h'.size = h.size + 1 ∧ RoadKit.Exa Z h' x ST ∧ RoadKit.Fld Z h' x ST "value" "[B" (.ref h.size) ∧ RoadKit.Fld Z h' x ST "coder" "B" (.int 0) ∧
  (∃ kb, Z.vm.findClass "[B" = some kb ∧ RoadKit.Arv Z h' h.size kb .byte zn (cs.map fun c => .int (lo8 c)) (.int 0)) ∧
  ∀ (O n d : String) (w : Value), RoadKit.Fld Z h x O n d w → RoadKit.slotOf Z O n d ≠ RoadKit.slotOf Z ST "value" "[B" → RoadKit.slotOf Z O n d ≠ RoadKit.slotOf Z ST "coder" "B" → RoadKit.Fld Z h' x O n d w
/-- **new String(chars) AT A CALL, THE ARRAYS AS LISTS**: the char[] at b holds cs, not empty, no char above 255 -/
theorem backArv {p : Program} {l : Launch} {e : Env} {R : Room} {s : State} {args : Array Value} {below : List Frame} {len W : Nat} {Z : State} {a0 : Array Value} {h : Heap} (hZ : Z.Warmed39 s.vm) (hw : ∀ d ∈ words, d.before a0 Z = true) {kI : Nat} (wi : (Jvm.Cond.instantiable ST kI).before a0 Z = true)
    {x b : Addr} {k : ClassId} {zn z : Int32} {cs : List Int32} {dv v0 c0 : Value} (E : RoadKit.Exa Z h x ST) (V : RoadKit.Fld Z h x ST "value" "[B" v0) (C : RoadKit.Fld Z h x ST "coder" "B" c0) (K : RoadKit.Arv Z h b k .char zn (cs.map Value.int) dv) (S : RoadKit.Sta Z h ST "COMPACT_STRINGS" "Z" (.int z)) (hz : ¬ z = 0)
    (hlen : zn.toNatClampNeg = cs.length) (h0 : 0 < cs.length) (hbig : cs.length ≤ 536870912) (hall : ∀ c ∈ cs, ¬ 255 < c) (hfr : 4 ≤ R.frames) (hlo : W + 65 ≤ R.locals) :
    Back l R p e below s args New1.yN len W (fun P a => a = #[.ref x, .ref b] ∧ P.U.heap = h ∧ P.cells + 1 ≤ R.cells ∧ P.slots + cs.length ≤ R.slots)
      (fun P _ v B => ∃ L, QA Z x zn cs h v B.U.heap L ∧ B.locs = P.locs ++ L ∧ B.cells = P.cells + 1 ∧ B.slots = P.slots + cs.length) := by
  obtain ⟨A, K1, K2, K3, K4, K5, K6⟩ := K
  have e : A.slots.size = cs.length := K3.trans hlen
  have hat : ∀ (i : Nat) (hi : i < cs.length), A.slots[i]? = some (.int cs[i]) := fun i hi => by rw [K5 i (by omega)]; simp [List.getD_eq_getElem?_getD, hi]
  have hcv : ∀ (i : Nat) (hi : i < cs.length), cv A i = cs[i] := fun i hi => by unfold cv; rw [hat i hi]
  have hty : Typed .char A := fun i v hv => by
    have hi : i < A.slots.size := (Array.getElem?_eq_some_iff.mp hv).1
    have q := K5 i hi
    rw [hv] at q
    rw [Option.some.inj q]
    exact K6 i hi
  refine Back.mono (back hZ hw wi E V C K1 hty S hz (by omega) (by omega) (fun i hi => by rw [hcv i (by omega)]; exact hall _ (List.getElem_mem _)) hfr hlo) (fun P a hp => ⟨hp.1, hp.2.1, hp.2.2.1, by rw [e]; exact hp.2.2.2⟩) (fun P a v B hp hq => ?_)
  obtain ⟨L, ⟨q1, q2, q3, q4, q5, q6, q7, ⟨V', v1, v2, v3, v4, v5⟩, q9⟩, hl, hc, hs⟩ := hq
  refine ⟨L, ⟨q1, q2, q3, q4, q5, q6, q7, ⟨V'.cls, v3, V', v1, rfl, by rw [v4, e, hlen], K4, fun i hi => ?_, fun i hi => ?_⟩, q9⟩, hl, hc, by rw [hs, e]⟩
  · have hi' : i < cs.length := by omega
    rw [v5 i (by omega), hcv i hi']; simp [List.getD_eq_getElem?_getD, hi']
  · have hi' : i < cs.length := by omega
    simp only [List.getD_eq_getElem?_getD, List.getElem?_map, List.getElem?_eq_getElem hi', Option.map_some, Option.getD_some]
    exact fits_lo8 _
end StrChars.Road
namespace StrChars.Road
open Jvm Sem ClassFile Op Lib Jvm.Stand Jvm.Free Jvm.Free.XT
/-- WHAT COMES BACK, in the writer's own shape -/
def QV (Z : State) (x : Addr) (N : Int32) (bs : List Int32) (h : Heap) (n0 : Nat) (v : Option Value) (h' : Heap) (L : List Loc) : Prop := v = none ∧ RoadKit.Fr n0 L ∧ RoadKit.Keep h h' [x] ∧ RoadKit.Exa Z h' x ST ∧ RoadKit.Fld Z h' x ST "coder" "B" (.int 0) ∧
  ∃ (t : Addr) (kb : ClassId), n0 ≤ t ∧ h.size ≤ t ∧ ¬ t = x ∧ RoadKit.Fld Z h' x ST "value" "[B" (.ref t) ∧ RoadKit.Arv Z h' t kb .byte N (bs.map Value.int) (.int 0)
/-- **new String(chars) AT A CALL, FOR THE WRITER**: a char[] of n known ints, each 0 to 255 -/
theorem backV {p : Program} {l : Launch} {e : Env} {R : Room} {s : State} {args : Array Value} {below : List Frame} {len W : Nat} {Z : State} {a0 : Array Value} {h : Heap} (hZ : Z.Warmed39 s.vm) (hw : ∀ d ∈ words, d.before a0 Z = true) {kI : Nat} (wi : (Jvm.Cond.instantiable ST kI).before a0 Z = true)
    {x b : Addr} {kC : ClassId} {cs bs : List Int32} {d v0 c0 : Value} {z N : Int32} {n n0 : Nat} (hx0 : n0 ≤ x) (hh0 : n0 ≤ h.size) (E : RoadKit.Exa Z h x ST) (V : RoadKit.Fld Z h x ST "value" "[B" v0) (C : RoadKit.Fld Z h x ST "coder" "B" c0) (K : RoadKit.Arv Z h b kC .char N (cs.map Value.int) d) (S : RoadKit.Sta Z h ST "COMPACT_STRINGS" "Z" (.int z)) (hz : ¬ z = 0)
    (hn : cs.length = n) (hN : N = Int32.ofNat n) (l0 : 0 < n) (l2 : n ≤ 4000) (hp : ∀ c ∈ cs, ¬ c < 0 ∧ ¬ (255 : Int32) < c) (hb : bs = cs.map (fun c => c.toInt8.toInt32)) (hfr : 4 ≤ R.frames) (hlo : W + 65 ≤ R.locals) :
    Back l R p e below s args (⟨"java/lang/String", "<init>", "([C)V"⟩ : MethodName) len W (fun P a => a = #[.ref x, .ref b] ∧ P.U.heap = h ∧ P.cells + 1 ≤ R.cells ∧ P.slots + n ≤ R.slots)
      (fun P _ v B => ∃ L, QV Z x N bs h n0 v B.U.heap L ∧ B.locs = P.locs ++ L ∧ B.cells = P.cells + 1 ∧ B.slots = P.slots + n) := by
  subst hn hN hb
  refine Back.mono (backArv hZ hw wi E V C K S hz (n32 (by omega)) l0 (by omega) (fun c hc => (hp c hc).2) hfr hlo) (fun P a hp => hp) (fun P a v B hp hq => ?_)
  obtain ⟨L, ⟨q1, q2, q3, q4, q5, q6, q7, ⟨kb, v1, v2⟩, q9⟩, hl, hc, hs⟩ := hq
  exact ⟨L, ⟨q1, fun y hy => by rw [q2 y hy]; exact hx0, q3, q5, q7, h.size, kb, hh0, Nat.le_refl _, Nat.ne_of_gt E.lt, q6, by rw [List.map_map]; exact v2⟩, hl, hc, hs⟩
end StrChars.Road
namespace StrChars
open Jvm Sem ClassFile Op Lib Jvm.Stand Jvm.Free.XT Jvm.Free.ALB Jvm.Free.JM Jvm.Free
open Jvm.Lib.Cold (StaticIs)
def hi8 (x : Int32) : Int32 := lo8 (x >>> ((8 : Int32) &&& 31))
/-- what StringUTF16.getChar makes of two bytes -/
def pairCh (u v : Int32) : Int32 := (((u &&& 255) <<< ((0 : Int32) &&& 31)) ||| ((v &&& 255) <<< ((8 : Int32) &&& 31))).toUInt32.toUInt16.toUInt32.toInt32
theorem lo8_and (x : Int32) : (lo8 x &&& 255).toBitVec.toNat = x.toBitVec.toNat % 256 := by
  have h : (lo8 x).toBitVec = (x.toBitVec.signExtend 8).signExtend 32 := by rw [lo8, Int8.toBitVec_toInt32, Int32.toBitVec_toInt8]
  rw [Int32.toBitVec_and, BitVec.toNat_and, h]
  have e : ((x.toBitVec.signExtend 8).signExtend 32).toNat % 256 = x.toBitVec.toNat % 256 := by
    rw [BitVec.toNat_signExtend]
    have hlt := x.toBitVec.isLt
    simp only [BitVec.toNat_setWidth, BitVec.toNat_signExtend]
    split <;> split <;> omega
  rw [← e]
  exact Nat.and_two_pow_sub_one_eq_mod _ 8
theorem pair_says {c : Int32} (h0 : ¬ c < 0) (h1 : ¬ 65535 < c) : pairCh (lo8 c) (hi8 c) = c := by
  rw [Int32.lt_iff_toInt_lt] at h0 h1
  have e0 : (0 : Int32).toInt = 0 := rfl
  have e1 : (65535 : Int32).toInt = 65535 := rfl
  have hc : c.toInt = c.toBitVec.toNat := by
    have := c.toBitVec.isLt
    have e : c.toInt = c.toBitVec.toInt := rfl
    rw [e] at h0 h1
    rw [e]
    rw [BitVec.toInt_eq_toNat_cond] at h0 h1 ⊢
    split at h0 <;> split <;> omega
  have hn : c.toBitVec.toNat < 65536 := by omega
  have a1 := lo8_and c
  have a2 : (hi8 c &&& 255).toBitVec.toNat = c.toBitVec.toNat / 256 := by
    rw [hi8, lo8_and]
    have e : ((8 : Int32) &&& 31) = 8 := by decide
    rw [e, Int32.toBitVec_shiftRight]
    have e2 : ((8 : Int32).toBitVec.smod 32) = 8#32 := by decide
    rw [e2, BitVec.sshiftRight_eq', BitVec.toNat_sshiftRight_of_msb_false (by rw [BitVec.msb_eq_false_iff_two_mul_lt]; omega)]
    show c.toBitVec.toNat >>> 8 % 256 = _
    rw [Nat.shiftRight_eq_div_pow]
    omega
  unfold pairCh
  apply Int32.toBitVec_inj.mp
  apply BitVec.eq_of_toNat_eq
  have f0 : ((0 : Int32) &&& 31) = 0 := by decide
  have f8 : ((8 : Int32) &&& 31) = 8 := by decide
  rw [f0, f8]
  have g : (((lo8 c &&& 255) <<< (0 : Int32)) ||| ((hi8 c &&& 255) <<< (8 : Int32))).toBitVec.toNat = c.toBitVec.toNat := by
    rw [Int32.toBitVec_or, Int32.toBitVec_shiftLeft, Int32.toBitVec_shiftLeft]
    have s0 : ((0 : Int32).toBitVec.smod 32) = 0#32 := by decide
    have s8 : ((8 : Int32).toBitVec.smod 32) = 8#32 := by decide
    rw [s0, s8, BitVec.toNat_or]
    simp only [BitVec.shiftLeft_eq', BitVec.toNat_shiftLeft, a1, a2]
    show (c.toBitVec.toNat % 256) <<< 0 % 2 ^ 32 ||| (c.toBitVec.toNat / 256) <<< 8 % 2 ^ 32 = _
    rw [Nat.shiftLeft_zero, Nat.mod_eq_of_lt (show c.toBitVec.toNat % 256 < 2 ^ 32 by omega), Nat.mod_eq_of_lt (show (c.toBitVec.toNat / 256) <<< 8 < 2 ^ 32 by rw [Nat.shiftLeft_eq]; omega), Nat.or_comm, ← Nat.shiftLeft_add_eq_or_of_lt (by omega), Nat.shiftLeft_eq]
    omega
  show BitVec.toNat (((((lo8 c &&& 255) <<< (0 : Int32)) ||| ((hi8 c &&& 255) <<< (8 : Int32))).toBitVec.setWidth 16).setWidth 32) = _
  rw [BitVec.toNat_setWidth, BitVec.toNat_setWidth, g]
  omega
end StrChars
namespace StrChars
open Jvm Sem ClassFile Op Lib Jvm.Stand Jvm.Free.XT Jvm.Free.ALB Jvm.Free.JM Jvm.Free
open Jvm.Lib.Cold (StaticIs)
/-- the array's cell V codes the n chars f 0 .. f (n - 1) by the coder cd, as the JDK does: coder 1 just where some char is above 255 -/
def Cod (cd : Int32) (n : Nat) (f : Nat → Int32) (V : Cell) : Prop := (cd = 0 ∧ V.slots.size = n ∧ ∀ j, j < n → V.slots[j]? = some (.int (lo8 (f j))) ∧ ¬ 255 < f j) ∨ (cd = 1 ∧ V.slots.size = 2 * n ∧ (∀ j, j < n → V.slots[2 * j]? = some (.int (lo8 (f j))) ∧ V.slots[2 * j + 1]? = some (.int (hi8 (f j)))) ∧ ∃ j, j < n ∧ 255 < f j)
/-- **x is a String of the n chars f 0 .. f (n - 1)**, Latin-1 or UTF-16; its array at t has the cell V -/
def Txt (x t : Addr) (V : Cell) (cd : Int32) (n : Nat) (f : Nat → Int32) (U : State) : Prop := Exact "java/lang/String" x U ∧ Has x "java/lang/String" "value" "[B" (.ref t) U ∧ Has x "java/lang/String" "coder" "B" (.int cd) U ∧ XT.Arr .byte t V U ∧ Cod cd n f V ∧ ∀ j, j < n → ¬ f j < 0 ∧ ¬ 65535 < f j
theorem Txt.mv {x t : Addr} {V : Cell} {cd : Int32} {n : Nat} {f : Nat → Int32} {U U' : State} (h : Txt x t V cd n f U) (hal : U.vm.Alike U'.vm) (hh : U'.heap = U.heap) : Txt x t V cd n f U' := ⟨h.1.mv hal hh, h.2.1.mv hal hh, h.2.2.1.mv hal hh, h.2.2.2.1.mv hal hh, h.2.2.2.2⟩
end StrChars
namespace StrChars.Road
open Jvm Sem ClassFile Op Lib Jvm.Stand Jvm.Free Jvm.Free.XT
open Jvm.Lib.Cold (StaticIs)
theorem consq {a : Array Value} {s : State} {c : Jvm.Cond} {L : List Jvm.Cond} (h0 : c.before a s = true) (h : ∀ w ∈ L, w.before a s = true) : ∀ w ∈ c :: L, w.before a s = true := fun w hw => (List.mem_cons.mp hw).elim (fun e => e ▸ h0) (h w)
/-- the bytes of the chars cs, low before high -/
def wideBytes : List Int32 → List Value
  | [] => []
  | c :: cs => .int (lo8 c) :: .int (hi8 c) :: wideBytes cs
theorem wide_lo (d : Value) : ∀ (cs : List Int32) (j : Nat), j < cs.length → (wideBytes cs).getD (2 * j) d = .int (lo8 (cs.getD j 0))
  | [], j, h => absurd h (Nat.not_lt_zero j)
  | c :: cs, 0, _ => rfl
  | c :: cs, j + 1, h => by
    have q := wide_lo d cs j (by simpa using h)
    rw [show 2 * (j + 1) = 2 * j + 1 + 1 from by omega]
    simpa [wideBytes] using q
theorem wide_hi (d : Value) : ∀ (cs : List Int32) (j : Nat), j < cs.length → (wideBytes cs).getD (2 * j + 1) d = .int (hi8 (cs.getD j 0))
  | [], j, h => absurd h (Nat.not_lt_zero j)
  | c :: cs, 0, _ => rfl
  | c :: cs, j + 1, h => by
    have q := wide_hi d cs j (by simpa using h)
    rw [show 2 * (j + 1) + 1 = 2 * j + 1 + 1 + 1 from by omega]
    simpa [wideBytes] using q
theorem low_at (d : Value) (cs : List Int32) (j : Nat) (h : j < cs.length) : (cs.map fun c => Value.int (lo8 c)).getD j d = .int (lo8 (cs.getD j 0)) := by
  simp [List.getD_eq_getElem?_getD, h]
/-- an array of N2 bytes vs codes the chars cs by the coder cd -/
def CodA (cs : List Int32) (cd N2 : Int32) (vs : List Value) : Prop := (cd = 0 ∧ N2 = Int32.ofNat cs.length ∧ vs = (cs.map fun c => Value.int (lo8 c)) ∧ ∀ c ∈ cs, ¬ 255 < c) ∨ (cd = 1 ∧ N2 = Int32.ofNat (2 * cs.length) ∧ vs = wideBytes cs ∧ ∃ c ∈ cs, 255 < c)
theorem CodA.cod {cs : List Int32} {cd N2 : Int32} {vs : List Value} {V : Cell} (h : CodA cs cd N2 vs) (hn : 2 * cs.length < 2 ^ 31) (hs : V.slots.size = N2.toNatClampNeg) (hv : RoadKit.Has V vs (.int 0)) : Cod cd cs.length (fun j => cs.getD j 0) V := by
  rcases h with ⟨rfl, rfl, rfl, h⟩ | ⟨rfl, rfl, rfl, c, hc, hw⟩
  · rw [n32 (by omega)] at hs
    exact Or.inl ⟨rfl, hs, fun j hj => ⟨by rw [hv j (by omega), low_at _ _ _ hj], by
      have e : cs.getD j 0 = cs[j] := by simp [List.getD_eq_getElem?_getD, hj]
      show ¬ 255 < cs.getD j 0
      rw [e]; exact h _ (List.getElem_mem _)⟩⟩
  · rw [n32 (by omega)] at hs
    obtain ⟨j, hj, rfl⟩ := List.getElem_of_mem hc
    exact Or.inr ⟨rfl, hs, fun j hj => ⟨by rw [hv _ (by omega), wide_lo _ _ _ hj], by rw [hv _ (by omega), wide_hi _ _ _ hj]⟩, j, hj, by
      have e : cs.getD j 0 = cs[j] := by simp [List.getD_eq_getElem?_getD, hj]
      show 255 < cs.getD j 0
      rw [e]; exact hw⟩
/-- an object of exactly java/lang/String, its two fields found: as the laws ask it -/
theorem strObj {Z U : State} {a0 : Array Value} {kI : Nat} (wi : (Jvm.Cond.instantiable ST kI).before a0 Z = true) (al : Z.vm.Alike U.vm) {x : Addr} {v0 c0 : Value} (E : RoadKit.Exa Z U.heap x ST) (V : RoadKit.Fld Z U.heap x ST "value" "[B" v0) (C : RoadKit.Fld Z U.heap x ST "coder" "B" c0) :
    ∃ (D : Cell) (fV fC : Field), Blank ST x D U ∧ Found ST "value" "[B" fV U ∧ Found ST "coder" "B" fC U ∧ D.slots[fV.slot]? = some v0 ∧ D.slots[fC.slot]? = some c0 ∧ RoadKit.slotOf Z ST "value" "[B" = fV.slot ∧ RoadKit.slotOf Z ST "coder" "B" = fC.slot := by
  obtain ⟨D, cfV, kV, iV, fV, hD, gV, stV, knV, obV, asV, slV⟩ := V
  obtain ⟨D', cfC, kC, iC, fC, hD', gC, stC, -, -, asC, slC⟩ := C
  cases hD.symm.trans hD'
  obtain ⟨D2, kD, e1, e2, e3, e4, e5⟩ := E
  cases hD.symm.trans e1
  obtain ⟨c2, k2, i1, i2, i3, -⟩ := Cond.instantiable_spec wi
  cases e2.symm.trans i1
  cases e3.symm.trans i2
  obtain ⟨kU, u1, u2⟩ := al.2.2 _ _ e3
  exact ⟨D, fV, fC, ⟨hD, ⟨knV, fun q hq => by rw [hq] at obV; cases obV⟩, by rw [al.findClass]; exact e2, kU, u1, by rw [u2]; exact i3, by rw [u2]; exact e5 i3⟩, ⟨SBG.found_only al ⟨cfV, kV, iV, gV⟩, stV⟩, ⟨SBG.found_only al ⟨cfC, kC, iC, gC⟩, stC⟩, slV, slC, by simp [RoadKit.slotOf, gV], by simp [RoadKit.slotOf, gC]⟩
theorem sta_is {Z U : State} (al : Z.vm.Alike U.vm) {C n d : String} {v : Value} (S : RoadKit.Sta Z U.heap C n d v) : StaticIs U C n d v := by
  obtain ⟨cfS, iS, kS, fS, st, cS, t1, t2, t3, t4, t5, t6, t7⟩ := S
  exact StaticIs.there (s := { Z with heap := U.heap }) ⟨cfS, iS, kS, fS, st, cS, t1, t2, t3, t4, t5, (fun q => by rw [q] at t6; cases t6), t7⟩ al rfl
end StrChars.Road
namespace StrChars
open Jvm Sem ClassFile Op Lib Jvm.Stand Jvm.Free.XT Jvm.Free.ALB Jvm.Free.JM Jvm.Free
open Jvm.Lib.Cold (StaticIs)
/-- what place i of a byte[]'s cell holds -/
def yv (A : Cell) (i : Nat) : Int32 := match A.slots[i]? with | some (.int x) => x | _ => 0
theorem yv_get {a : Addr} {A : Cell} {U : State} (h : XT.Arr .byte a A U) (ht : Typed .byte A) {i : Nat} (hi : i < A.slots.size) : A.slots[i]? = some (.int (yv A i)) := by
  have e := Array.getElem?_eq_getElem hi
  have f := ht i _ e
  unfold yv; rw [e]
  generalize A.slots[i] = v at f
  cases v <;> simp [fits] at f ⊢
/-- the two arrays are equal, place for place -/
def EqC (A B : Cell) : Prop := A.slots.size = B.slots.size ∧ ∀ i, i < A.slots.size → yv A i = yv B i
/-- a boolean that says whether p -/
def Says01 (q : Prop) (r : Option Value) (s u : State) : Prop := ∃ v : Int32, r = some (.int v) ∧ u.heap = s.heap ∧ ((v = 1 ∧ q) ∨ (v = 0 ∧ ¬ q))
theorem Says01.mv {q : Prop} : ∀ r (U U' V V' : State), U'.heap = U.heap → V.vm.Alike V'.vm → V'.heap = V.heap → Says01 q r U V → Says01 q r U' V' :=
  fun r U U' V V' h1 _ h2 ⟨v, a, b, c⟩ => ⟨v, a, by rw [h1, h2]; exact b, c⟩
namespace LEq
def yN : MethodName := ⟨"java/lang/StringLatin1", "equals", "([B[B)Z"⟩
abbrev yB : ByteArray := jdk_43_method_13_code
theorem d0 : decode yB 0 = .ok (.aload_n 0, 1) := by decide +kernel
theorem d1 : decode yB 1 = .ok (.arraylength, 1) := by decide +kernel
theorem d2 : decode yB 2 = .ok (.aload_n 1, 1) := by decide +kernel
theorem d3 : decode yB 3 = .ok (.arraylength, 1) := by decide +kernel
theorem d4 : decode yB 4 = .ok (.if_icmp (.ne) 30, 3) := by decide +kernel
theorem d7 : decode yB 7 = .ok (.iconst 0, 1) := by decide +kernel
theorem d8 : decode yB 8 = .ok (.istore_n 2, 1) := by decide +kernel
theorem d9 : decode yB 9 = .ok (.iload_n 2, 1) := by decide +kernel
theorem d10 : decode yB 10 = .ok (.aload_n 0, 1) := by decide +kernel
theorem d11 : decode yB 11 = .ok (.arraylength, 1) := by decide +kernel
theorem d12 : decode yB 12 = .ok (.if_icmp (.ge) 20, 3) := by decide +kernel
theorem d15 : decode yB 15 = .ok (.aload_n 0, 1) := by decide +kernel
theorem d16 : decode yB 16 = .ok (.iload_n 2, 1) := by decide +kernel
theorem d17 : decode yB 17 = .ok (.baload, 1) := by decide +kernel
theorem d18 : decode yB 18 = .ok (.aload_n 1, 1) := by decide +kernel
theorem d19 : decode yB 19 = .ok (.iload_n 2, 1) := by decide +kernel
theorem d20 : decode yB 20 = .ok (.baload, 1) := by decide +kernel
theorem d21 : decode yB 21 = .ok (.if_icmp (.eq) 5, 3) := by decide +kernel
theorem d24 : decode yB 24 = .ok (.iconst 0, 1) := by decide +kernel
theorem d25 : decode yB 25 = .ok (.ireturn, 1) := by decide +kernel
theorem d26 : decode yB 26 = .ok (.iinc 2 1, 3) := by decide +kernel
theorem d29 : decode yB 29 = .ok (.goto (-20), 3) := by decide +kernel
theorem d32 : decode yB 32 = .ok (.iconst 1, 1) := by decide +kernel
theorem d33 : decode yB 33 = .ok (.ireturn, 1) := by decide +kernel
theorem d34 : decode yB 34 = .ok (.iconst 0, 1) := by decide +kernel
theorem d35 : decode yB 35 = .ok (.ireturn, 1) := by decide +kernel
def site : List Cond := []
def tab : Cond := tabOf yN yB 3 (some .boolean) site
def P (a : Addr) (A : Cell) (b : Addr) (B : Cell) (args : Array Value) (s : State) : Prop := args = #[.ref a, .ref b] ∧ XT.Arr .byte a A s ∧ Typed .byte A ∧ XT.Arr .byte b B s ∧ Typed .byte B
/-- whether two byte[] are equal, place for place -/
theorem law (l : Launch) (a : Addr) (A : Cell) (b : Addr) (B : Cell) : Law l yN 2 2 0 0 yB 3 (some .boolean) site (P a A b B) (Says01 (EqC A B)) [] 0 0 := by
  refine Law.of_walk (plainFor_of_name (by decide +kernel)) (by decide +kernel) (by decide +kernel) (by decide) (fun _ _ h => by rw [h.1]; rfl) (fun _ U U' hal hh h => ⟨h.1, h.2.1.mv hal hh, h.2.2.1, h.2.2.2.1.mv hal hh, h.2.2.2.2⟩) (fun r U U' V V' h1 hal h2 h => Says01.mv r U U' V V' h1 hal h2 h) ?_
  intro p e s m args below meth c s₁ X0 hexec hbytes hml hret hlk hnm hown hh0 W hP
  obtain ⟨rfl, hA, tA, hB, tB⟩ := hP
  have a31 := hA.2.2.2
  have b31 := hB.2.2.2
  have hA0 := hA.mv X0.warmed.alike hh0
  have hB0 := hB.mv X0.warmed.alike hh0
  have c1 : Steps p.tables e below (s₁.setTop (entryFrame m #[.ref a, .ref b] 3)) (s₁.setTop (mkF m 0 #[.val (.ref a), .val (.ref b), .unset] [])) := entry rfl
  have c2 : Steps p.tables e below (s₁.setTop (entryFrame m #[.ref a, .ref b] 3)) (s₁.setTop (mkF m 4 #[.val (.ref a), .val (.ref b), .unset] [.int (Int32.ofNat B.slots.size), .int (Int32.ofNat A.slots.size)])) := c1.trans (by
    refine XS.aloadN X0.here hexec rfl (hb hbytes d0) rfl rfl ?_
    refine X0.alen hexec hA0 rfl rfl (hb hbytes d1) ?_
    refine XS.aloadN X0.here hexec rfl (hb hbytes d2) rfl rfl ?_
    refine X0.alen hexec hB0 rfl rfl (hb hbytes d3) ?_
    exact Steps.refl _)
  by_cases hs : A.slots.size = B.slots.size
  · have c3 : Steps p.tables e below (s₁.setTop (entryFrame m #[.ref a, .ref b] 3)) (s₁.setTop (mkF m 9 #[.val (.ref a), .val (.ref b), .val (.int 0)] [])) := c2.trans (by
      refine XS.icmpNo X0.here hexec rfl (hb hbytes d4) rfl (ii_ne_f (by rw [hs])) ?_
      refine iconstV X0.here hexec rfl 0 (hb hbytes d7) (by decide) ?_
      refine XS.istoreN X0.here hexec rfl (hb hbytes d8) rfl rfl ?_
      exact Steps.refl _)
    have loop : ∀ (r i : Nat), i + r = A.slots.size → (∀ j, j < i → yv A j = yv B j) → Steps p.tables e below (s₁.setTop (entryFrame m #[.ref a, .ref b] 3)) (s₁.setTop (mkF m 9 #[.val (.ref a), .val (.ref b), .val (.int (Int32.ofNat i))] [])) → ∃ (pc : Nat) (Ls : Array Slot) (v : Int32), (pc = 25 ∨ pc = 33) ∧ ((v = 1 ∧ EqC A B) ∨ (v = 0 ∧ ¬ EqC A B)) ∧ Steps p.tables e below (s₁.setTop (entryFrame m #[.ref a, .ref b] 3)) (s₁.setTop (mkF m pc Ls [.int v])) := by
      intro r
      induction r with
      | zero =>
        intro i hi he cl
        exact ⟨33, _, 1, Or.inr rfl, Or.inl ⟨rfl, hs, fun j hj => he j (by omega)⟩, cl.trans (by
          refine XS.iloadN X0.here hexec rfl (hb hbytes d9) rfl ?_
          refine XS.aloadN X0.here hexec rfl (hb hbytes d10) rfl rfl ?_
          refine X0.alen hexec hA0 rfl rfl (hb hbytes d11) ?_
          refine XS.icmpYes X0.here hexec rfl (pc0 := 12) rfl (hb hbytes d12) rfl (ii_ge_t (nlt32 (by omega) (by omega))) (by decide) rfl ?_
          refine iconstV X0.here hexec rfl 1 (hb hbytes d32) (by decide) ?_
          exact Steps.refl _)⟩
      | succ r ih =>
        intro i hi he cl
        have c4 : Steps p.tables e below (s₁.setTop (entryFrame m #[.ref a, .ref b] 3)) (s₁.setTop (mkF m 21 #[.val (.ref a), .val (.ref b), .val (.int (Int32.ofNat i))] [.int (yv B i), .int (yv A i)])) := cl.trans (by
          refine XS.iloadN X0.here hexec rfl (hb hbytes d9) rfl ?_
          refine XS.aloadN X0.here hexec rfl (hb hbytes d10) rfl rfl ?_
          refine X0.alen hexec hA0 rfl rfl (hb hbytes d11) ?_
          refine XS.icmpNo X0.here hexec rfl (hb hbytes d12) rfl (ii_ge_f (lt32 (by omega) (by omega))) ?_
          refine XS.aloadN X0.here hexec rfl (hb hbytes d15) rfl rfl ?_
          refine XS.iloadN X0.here hexec rfl (hb hbytes d16) rfl ?_
          refine X0.aget hexec hA0 rfl (yv_get hA tA (i := i) (by omega)) rfl rfl (hb hbytes d17) ?_
          refine XS.aloadN X0.here hexec rfl (hb hbytes d18) rfl rfl ?_
          refine XS.iloadN X0.here hexec rfl (hb hbytes d19) rfl ?_
          refine X0.aget hexec hB0 rfl (yv_get hB tB (i := i) (by omega)) rfl rfl (hb hbytes d20) ?_
          exact Steps.refl _)
        by_cases hv : yv A i = yv B i
        · have c5 : Steps p.tables e below (s₁.setTop (entryFrame m #[.ref a, .ref b] 3)) (s₁.setTop (mkF m 9 #[.val (.ref a), .val (.ref b), .val (.int (Int32.ofNat i + 1))] [])) := c4.trans (by
            refine XS.icmpYes X0.here hexec rfl (pc0 := 21) rfl (hb hbytes d21) rfl (ii_eq_t hv) (by decide) rfl ?_
            refine iincV X0.here hexec rfl 1 (hb hbytes d26) (by decide) rfl rfl ?_
            refine XS.goto X0.here hexec rfl (pc0 := 29) rfl (hb hbytes d29) (by decide) rfl ?_
            exact Steps.refl _)
          rw [succ32] at c5
          exact ih (i + 1) (by omega) (fun j hj => by
            by_cases e : j = i
            · rw [e]; exact hv
            · exact he j (by omega)) c5
        · exact ⟨25, _, 0, Or.inl rfl, Or.inr ⟨rfl, fun q => hv (q.2 i (by omega))⟩, c4.trans (by
            refine XS.icmpNo X0.here hexec rfl (hb hbytes d21) rfl (ii_eq_f hv) ?_
            refine iconstV X0.here hexec rfl 0 (hb hbytes d24) (by decide) ?_
            exact Steps.refl _)⟩
    obtain ⟨pc, Ls, v, hpc, hv, cz⟩ := loop A.slots.size 0 (by omega) (fun j hj => absurd hj (Nat.not_lt_zero j)) c3
    have nv : narrow .boolean (.int v) = .int v := by rcases hv with ⟨rfl, -⟩ | ⟨rfl, -⟩ <;> rfl
    rcases hpc with rfl | rfl
    · exact ⟨s₁, some (.int v), _, _, _, X0, rfl, rfl, rfl, (fun h => by cases h), ⟨v, rfl, hh0, hv⟩, fun fs hl => cz.trans (X0.ireturnOut hexec hret nv (Or.inr (Or.inl rfl)) (hb hbytes d25) hl)⟩
    · exact ⟨s₁, some (.int v), _, _, _, X0, rfl, rfl, rfl, (fun h => by cases h), ⟨v, rfl, hh0, hv⟩, fun fs hl => cz.trans (X0.ireturnOut hexec hret nv (Or.inr (Or.inl rfl)) (hb hbytes d33) hl)⟩
  · have c3 : Steps p.tables e below (s₁.setTop (entryFrame m #[.ref a, .ref b] 3)) (s₁.setTop (mkF m 35 #[.val (.ref a), .val (.ref b), .unset] [.int 0])) := c2.trans (by
      refine XS.icmpYes X0.here hexec rfl (pc0 := 4) rfl (hb hbytes d4) rfl (ii_ne_t (ne32 a31 b31 hs)) (by decide) rfl ?_
      refine iconstV X0.here hexec rfl 0 (hb hbytes d34) (by decide) ?_
      exact Steps.refl _)
    exact ⟨s₁, some (.int 0), _, _, _, X0, rfl, rfl, rfl, (fun h => by cases h), ⟨0, rfl, hh0, Or.inr ⟨rfl, fun q => hs q.1⟩⟩, fun fs hl => c3.trans (X0.ireturnOut hexec hret rfl (Or.inr (Or.inl rfl)) (hb hbytes d35) hl)⟩
end LEq
theorem Cod.ty {cd : Int32} {n : Nat} {f : Nat → Int32} {V : Cell} (h : Cod cd n f V) : Typed .byte V := fun i v hv => by
  have hi : i < V.slots.size := (Array.getElem?_eq_some_iff.mp hv).1
  rcases h with ⟨-, k1, k2⟩ | ⟨-, k1, k2, -⟩
  · rw [(k2 i (by omega)).1] at hv; cases hv; exact fits_lo8 _
  · rcases Nat.mod_two_eq_zero_or_one i with e | e
    · obtain ⟨j, rfl⟩ : ∃ j, i = 2 * j := ⟨i / 2, by omega⟩
      rw [(k2 j (by omega)).1] at hv; cases hv; exact fits_lo8 _
    · obtain ⟨j, rfl⟩ : ∃ j, i = 2 * j + 1 := ⟨i / 2, by omega⟩
      rw [(k2 j (by omega)).2] at hv; cases hv; exact fits_lo8 _
/-- the same text -/
def SameT (n : Nat) (f : Nat → Int32) (k : Nat) (g : Nat → Int32) : Prop := n = k ∧ ∀ j, j < n → f j = g j
theorem lo8_inj {x y : Int32} (h0 : ¬ x < 0) (h1 : ¬ 255 < x) (k0 : ¬ y < 0) (k1 : ¬ 255 < y) (h : lo8 x = lo8 y) : x = y := by
  rw [← lo8_mask h0 h1, ← lo8_mask k0 k1, h]
/-- arrays coded by one coder are equal just where the texts are -/
theorem Cod.eqv {cd : Int32} {n k : Nat} {f g : Nat → Int32} {V V' : Cell} (h : Cod cd n f V) (h' : Cod cd k g V') (hf : ∀ j, j < n → ¬ f j < 0 ∧ ¬ 65535 < f j) (hg : ∀ j, j < k → ¬ g j < 0 ∧ ¬ 65535 < g j) : EqC V V' ↔ SameT n f k g := by
  have yvv : ∀ {W : Cell} {i : Nat} {x : Int32}, W.slots[i]? = some (.int x) → yv W i = x := fun q => by unfold yv; rw [q]
  rcases h with ⟨rfl, k1, k2⟩ | ⟨rfl, k1, k2, -⟩
  · rcases h' with ⟨-, m1, m2⟩ | ⟨e, -⟩
    · constructor
      · rintro ⟨e1, e2⟩
        refine ⟨by omega, fun j hj => ?_⟩
        have q := e2 j (by omega)
        rw [yvv (k2 j hj).1, yvv (m2 j (by omega)).1] at q
        exact lo8_inj (hf j hj).1 (k2 j hj).2 (hg j (by omega)).1 (m2 j (by omega)).2 q
      · rintro ⟨rfl, e2⟩
        refine ⟨by omega, fun j hj => ?_⟩
        rw [yvv (k2 j (by omega)).1, yvv (m2 j (by omega)).1, e2 j (by omega)]
    · exact absurd e (by decide)
  · rcases h' with ⟨e, -⟩ | ⟨-, m1, m2, -⟩
    · exact absurd e (by decide)
    · constructor
      · rintro ⟨e1, e2⟩
        refine ⟨by omega, fun j hj => ?_⟩
        have q1 := e2 (2 * j) (by omega)
        have q2 := e2 (2 * j + 1) (by omega)
        rw [yvv (k2 j hj).1, yvv (m2 j (by omega)).1] at q1
        rw [yvv (k2 j hj).2, yvv (m2 j (by omega)).2] at q2
        rw [← pair_says (hf j hj).1 (hf j hj).2, ← pair_says (hg j (by omega)).1 (hg j (by omega)).2, q1, q2]
      · rintro ⟨rfl, e2⟩
        refine ⟨by omega, fun i hi => ?_⟩
        rcases Nat.mod_two_eq_zero_or_one i with e | e
        · obtain ⟨j, rfl⟩ : ∃ j, i = 2 * j := ⟨i / 2, by omega⟩
          rw [yvv (k2 j (by omega)).1, yvv (m2 j (by omega)).1, e2 j (by omega)]
        · obtain ⟨j, rfl⟩ : ∃ j, i = 2 * j + 1 := ⟨i / 2, by omega⟩
          rw [yvv (k2 j (by omega)).2, yvv (m2 j (by omega)).2, e2 j (by omega)]
/-- two codings differ: so do the texts -/
theorem Cod.dif {cd cd' : Int32} {n k : Nat} {f g : Nat → Int32} {V V' : Cell} (h : Cod cd n f V) (h' : Cod cd' k g V') (hne : ¬ cd = cd') : ¬ SameT n f k g := by
  rintro ⟨rfl, e⟩
  rcases h with ⟨rfl, -, k2⟩ | ⟨rfl, -, -, j, hj, hw⟩
  · rcases h' with ⟨rfl, -⟩ | ⟨-, -, -, j, hj, hw⟩
    · exact hne rfl
    · exact (k2 j hj).2 (by rw [e j hj]; exact hw)
  · rcases h' with ⟨-, -, m2⟩ | ⟨rfl, -⟩
    · exact (m2 j hj).2 (by rw [← e j hj]; exact hw)
    · exact hne rfl
/-- an object of exactly C is an instance of C -/
theorem cinst {p : Program} {l : Launch} {e : Env} {R : Room} {s : State} {m : MethodId} {args : Array Value} {below : List Frame} {meth : Method} {c : Code} {T : State} {locs : List Loc} {cells slots : Nat} (X : Stand p l e R s m args below meth c T locs cells slots) (hexec : p.tables.exec = Jvm.exec) {own C : String} {index : Nat} (hown : s.vm.findClass own = some m.cls) (hlink : (Cond.classLink own index C).before args s = true) {a : Addr} (hE : Exact C a T)
    {g : JFrame} (hg : g.method = m) {rest : List Value} (hstack : g.stack = .ref a :: rest) (hdg : decode c.code g.pc = .ok (.instanceof index, 3)) :
    ∃ T', Stand p l e R s m args below meth c T' locs cells slots ∧ T'.heap = T.heap ∧ ∀ target, Steps p.tables e below (T'.setTop { g with pc := g.pc + 3, stack := .int 1 :: rest }) target → Steps p.tables e below (T.setTop g) target := by
  obtain ⟨cB, h1, D, h2, h3, h4⟩ := hE
  have h1' : s.vm.findClass C = some cB := by rw [← X.warmed.alike.findClass]; exact h1
  obtain ⟨vm', X', st⟩ := X.instanceofYes hexec hown hlink h2 h4 h1' (by rw [h3]; exact Jvm.Free.SB.assignable_self _ _) hg hstack hdg
  exact ⟨_, X', rfl, st⟩
theorem cself {p : Program} {l : Launch} {e : Env} {R : Room} {s : State} {m : MethodId} {args : Array Value} {below : List Frame} {meth : Method} {c : Code} {T : State} {locs : List Loc} {cells slots : Nat} (X : Stand p l e R s m args below meth c T locs cells slots) (hexec : p.tables.exec = Jvm.exec) {own C : String} {index : Nat} (hown : s.vm.findClass own = some m.cls) (hlink : (Cond.classLink own index C).before args s = true) {a : Addr} (hE : Exact C a T)
    {g : JFrame} (hg : g.method = m) {rest : List Value} (hstack : g.stack = .ref a :: rest) (hdg : decode c.code g.pc = .ok (.checkcast index, 3)) :
    ∃ T', Stand p l e R s m args below meth c T' locs cells slots ∧ T'.heap = T.heap ∧ ∀ target, Steps p.tables e below (T'.setTop { g with pc := g.pc + 3, stack := .ref a :: rest }) target → Steps p.tables e below (T.setTop g) target := by
  obtain ⟨cB, h1, D, h2, h3, h4⟩ := hE
  have h1' : s.vm.findClass C = some cB := by rw [← X.warmed.alike.findClass]; exact h1
  obtain ⟨vm', X', st⟩ := X.checkcastYes hexec hown hlink h2 h4 h1' (by rw [h3]; exact Jvm.Free.SB.assignable_self _ _) hg hstack hdg
  exact ⟨_, X', rfl, fun t h => st t (by rw [← hstack] at h; exact h)⟩
namespace SEq
def yN : MethodName := ⟨"java/lang/String", "equals", "(Ljava/lang/Object;)Z"⟩
abbrev yB : ByteArray := jdk_42_method_66_code
theorem d0 : decode yB 0 = .ok (.aload_n 0, 1) := by decide +kernel
theorem d1 : decode yB 1 = .ok (.aload_n 1, 1) := by decide +kernel
theorem d2 : decode yB 2 = .ok (.if_acmp (.ne) 5, 3) := by decide +kernel
theorem d5 : decode yB 5 = .ok (.iconst 1, 1) := by decide +kernel
theorem d6 : decode yB 6 = .ok (.ireturn, 1) := by decide +kernel
theorem d7 : decode yB 7 = .ok (.aload_n 1, 1) := by decide +kernel
theorem d8 : decode yB 8 = .ok (.instanceof 10, 3) := by decide +kernel
theorem d11 : decode yB 11 = .ok (.ifCond (.eq) 43, 3) := by decide +kernel
theorem d14 : decode yB 14 = .ok (.aload_n 1, 1) := by decide +kernel
theorem d15 : decode yB 15 = .ok (.checkcast 10, 3) := by decide +kernel
theorem d18 : decode yB 18 = .ok (.astore_n 2, 1) := by decide +kernel
theorem d19 : decode yB 19 = .ok (.getstatic 38, 3) := by decide +kernel
theorem d22 : decode yB 22 = .ok (.ifCond (.eq) 14, 3) := by decide +kernel
theorem d25 : decode yB 25 = .ok (.aload_n 0, 1) := by decide +kernel
theorem d26 : decode yB 26 = .ok (.getfield 15, 3) := by decide +kernel
theorem d29 : decode yB 29 = .ok (.aload_n 2, 1) := by decide +kernel
theorem d30 : decode yB 30 = .ok (.getfield 15, 3) := by decide +kernel
theorem d33 : decode yB 33 = .ok (.if_icmp (.ne) 21, 3) := by decide +kernel
theorem d36 : decode yB 36 = .ok (.aload_n 0, 1) := by decide +kernel
theorem d37 : decode yB 37 = .ok (.getfield 9, 3) := by decide +kernel
theorem d40 : decode yB 40 = .ok (.aload_n 2, 1) := by decide +kernel
theorem d41 : decode yB 41 = .ok (.getfield 9, 3) := by decide +kernel
theorem d44 : decode yB 44 = .ok (.invokestatic 541, 3) := by decide +kernel
theorem d47 : decode yB 47 = .ok (.ifCond (.eq) 7, 3) := by decide +kernel
theorem d50 : decode yB 50 = .ok (.iconst 1, 1) := by decide +kernel
theorem d51 : decode yB 51 = .ok (.goto 4, 3) := by decide +kernel
theorem d54 : decode yB 54 = .ok (.iconst 0, 1) := by decide +kernel
theorem d55 : decode yB 55 = .ok (.ireturn, 1) := by decide +kernel
def site : List Cond := [.classLink "java/lang/String" 10 "java/lang/String", .fieldLink "java/lang/String" 38 "java/lang/String" "COMPACT_STRINGS" "Z", .fieldLink "java/lang/String" 15 "java/lang/String" "coder" "B", .fieldLink "java/lang/String" 9 "java/lang/String" "value" "[B", LEq.tab] ++ staticW "java/lang/String" 541 LEq.yN
def tab : Cond := tabOf yN yB 3 (some .boolean) site
def P (x t : Addr) (V : Cell) (cd : Int32) (n : Nat) (f : Nat → Int32) (y t' : Addr) (V' : Cell) (cd' : Int32) (k : Nat) (g : Nat → Int32) (z : Int32) (args : Array Value) (s : State) : Prop := args = #[.ref x, .ref y] ∧ Txt x t V cd n f s ∧ Txt y t' V' cd' k g s ∧ StaticIs s "java/lang/String" "COMPACT_STRINGS" "Z" (.int z) ∧ ¬ z = 0
/-- equals(Object) of two Strings: whether the texts are the same -/
theorem law (l : Launch) (x t : Addr) (V : Cell) (cd : Int32) (n : Nat) (f : Nat → Int32) (y t' : Addr) (V' : Cell) (cd' : Int32) (k : Nat) (g : Nat → Int32) (z : Int32) : Law l yN 2 1 1 14 yB 3 (some .boolean) site (P x t V cd n f y t' V' cd' k g z) (Says01 (SameT n f k g)) [] 0 0 := by
  refine Law.of_walk (plainFor_of_name (by decide +kernel)) (by decide +kernel) (by decide +kernel) (by decide) (fun _ _ h => by rw [h.1]; rfl) (fun _ U U' hal hh h => ⟨h.1, h.2.1.mv hal hh, h.2.2.1.mv hal hh, h.2.2.2.1.there hal hh, h.2.2.2.2⟩) (fun r U U' V V' h1 hal h2 h => Says01.mv r U U' V V' h1 hal h2 h) ?_
  intro p e s m args below meth c s₁ X0 hexec hbytes hml hret hlk hnm hown hh0 W hP
  obtain ⟨rfl, hx, hy, s1, hz⟩ := hP
  have c1 : Steps p.tables e below (s₁.setTop (entryFrame m #[.ref x, .ref y] 3)) (s₁.setTop (mkF m 2 #[.val (.ref x), .val (.ref y), .unset] [.ref y, .ref x])) := Steps.trans (entry rfl) (by
    show Steps p.tables e below (s₁.setTop (mkF m 0 #[.val (.ref x), .val (.ref y), .unset] [])) _
    refine XS.aloadN X0.here hexec rfl (hb hbytes d0) rfl rfl ?_
    refine XS.aloadN X0.here hexec rfl (hb hbytes d1) rfl rfl ?_
    exact Steps.refl _)
  by_cases hxy : x = y
  · have c2 : Steps p.tables e below (s₁.setTop (entryFrame m #[.ref x, .ref y] 3)) (s₁.setTop (mkF m 6 #[.val (.ref x), .val (.ref y), .unset] [.int 1])) := c1.trans (by
      refine acmpNo X0.here hexec rfl (hb hbytes d2) rfl rfl rfl (by simp [acmp, hxy]) ?_
      refine iconstV X0.here hexec rfl 1 (hb hbytes d5) (by decide) ?_
      exact Steps.refl _)
    subst hxy
    have ec : cd = cd' := by
      obtain ⟨D, fd, a1, a2, a3⟩ := hx.2.2.1
      obtain ⟨D', fd', b1, b2, b3⟩ := hy.2.2.1
      cases a1.symm.trans b1
      obtain ⟨q1, q2, q3, q4⟩ := a2.1
      obtain ⟨r1, r2, r3, r4⟩ := b2.1
      cases q4.symm.trans r4
      cases a3.symm.trans b3; rfl
    have et : t = t' := by
      obtain ⟨D, fd, a1, a2, a3⟩ := hx.2.1
      obtain ⟨D', fd', b1, b2, b3⟩ := hy.2.1
      cases a1.symm.trans b1
      obtain ⟨q1, q2, q3, q4⟩ := a2.1
      obtain ⟨r1, r2, r3, r4⟩ := b2.1
      cases q4.symm.trans r4
      cases a3.symm.trans b3; rfl
    subst ec et
    have ev : V = V' := by cases hx.2.2.2.1.1.symm.trans hy.2.2.2.1.1; rfl
    subst ev
    have hs : SameT n f k g := (Cod.eqv hx.2.2.2.2.1 hy.2.2.2.2.1 hx.2.2.2.2.2 hy.2.2.2.2.2).mp ⟨rfl, fun _ _ => rfl⟩
    exact ⟨s₁, some (.int 1), _, _, _, X0, rfl, rfl, rfl, (fun h => by cases h), ⟨1, rfl, hh0, Or.inl ⟨rfl, hs⟩⟩, fun fs hl => c2.trans (X0.ireturnOut hexec hret rfl (Or.inr (Or.inl rfl)) (hb hbytes d6) hl)⟩
  · have c2 : Steps p.tables e below (s₁.setTop (entryFrame m #[.ref x, .ref y] 3)) (s₁.setTop (mkF m 8 #[.val (.ref x), .val (.ref y), .unset] [.ref y])) := c1.trans (by
      refine acmpYes X0.here hexec rfl (pc0 := 2) rfl (hb hbytes d2) rfl rfl rfl (by simp [acmp, hxy]) (by decide) rfl ?_
      refine XS.aloadN X0.here hexec rfl (hb hbytes d7) rfl rfl ?_
      exact Steps.refl _)
    obtain ⟨T3, X3, q3, st3⟩ := cinst X0 hexec hown (wk W (.classLink "java/lang/String" 10 "java/lang/String")) (hy.mv X0.warmed.alike hh0).1 (g := (mkF m 8 #[.val (.ref x), .val (.ref y), .unset] [.ref y])) rfl (rest := []) rfl (hb hbytes d8)
    have hh3 := q3.trans hh0
    have c4 : Steps p.tables e below (s₁.setTop (entryFrame m #[.ref x, .ref y] 3)) (T3.setTop (mkF m 15 #[.val (.ref x), .val (.ref y), .unset] [.ref y])) := (c2.trans (st3 _ (Steps.refl _))).trans (by
      refine XS.ifNo X3.here hexec rfl (hb hbytes d11) rfl (i0_eq_f (by decide)) ?_
      refine XS.aloadN X3.here hexec rfl (hb hbytes d14) rfl rfl ?_
      exact Steps.refl _)
    obtain ⟨T5, X5, q5, st5⟩ := cself X3 hexec hown (wk W (.classLink "java/lang/String" 10 "java/lang/String")) (hy.mv X3.warmed.alike hh3).1 (g := (mkF m 15 #[.val (.ref x), .val (.ref y), .unset] [.ref y])) rfl (rest := []) rfl (hb hbytes d15)
    have hh5 := q5.trans hh3
    have c6 : Steps p.tables e below (s₁.setTop (entryFrame m #[.ref x, .ref y] 3)) (T5.setTop (mkF m 19 #[.val (.ref x), .val (.ref y), .val (.ref y)] [])) := (c4.trans (st5 _ (Steps.refl _))).trans (by
      refine XS.astoreN X5.here hexec rfl (hb hbytes d18) rfl rfl rfl ?_
      exact Steps.refl _)
    obtain ⟨T7, X7, q7, st7⟩ := X5.sget hexec hown (wk W (.fieldLink "java/lang/String" 38 "java/lang/String" "COMPACT_STRINGS" "Z")) s1 (fun _ _ h => by rw [hh5]; exact h) (g := (mkF m 19 #[.val (.ref x), .val (.ref y), .val (.ref y)] [])) rfl (hb hbytes d19)
    have hh7 := q7.trans hh5
    have c8 : Steps p.tables e below (s₁.setTop (entryFrame m #[.ref x, .ref y] 3)) (T7.setTop (mkF m 26 #[.val (.ref x), .val (.ref y), .val (.ref y)] [.ref x])) := (c6.trans (st7 _ (Steps.refl _))).trans (by
      refine XS.ifNo X7.here hexec rfl (hb hbytes d22) rfl (i0_eq_f hz) ?_
      refine XS.aloadN X7.here hexec rfl (hb hbytes d25) rfl rfl ?_
      exact Steps.refl _)
    obtain ⟨T9, X9, q9, st9⟩ := X7.hget hexec hown (wk W (.fieldLink "java/lang/String" 15 "java/lang/String" "coder" "B")) (hx.mv X7.warmed.alike hh7).2.2.1 (g := (mkF m 26 #[.val (.ref x), .val (.ref y), .val (.ref y)] [.ref x])) rfl (rest := []) rfl (hb hbytes d26)
    have hh9 := q9.trans hh7
    have c10 : Steps p.tables e below (s₁.setTop (entryFrame m #[.ref x, .ref y] 3)) (T9.setTop (mkF m 30 #[.val (.ref x), .val (.ref y), .val (.ref y)] [.ref y, .int cd])) := (c8.trans (st9 _ (Steps.refl _))).trans (by
      refine XS.aloadN X9.here hexec rfl (hb hbytes d29) rfl rfl ?_
      exact Steps.refl _)
    obtain ⟨T11, X11, q11, st11⟩ := X9.hget hexec hown (wk W (.fieldLink "java/lang/String" 15 "java/lang/String" "coder" "B")) (hy.mv X9.warmed.alike hh9).2.2.1 (g := (mkF m 30 #[.val (.ref x), .val (.ref y), .val (.ref y)] [.ref y, .int cd])) rfl (rest := [.int cd]) rfl (hb hbytes d30)
    have hh11 := q11.trans hh9
    have c12 : Steps p.tables e below (s₁.setTop (entryFrame m #[.ref x, .ref y] 3)) (T11.setTop (mkF m 33 #[.val (.ref x), .val (.ref y), .val (.ref y)] [.int cd', .int cd])) := c10.trans (st11 _ (Steps.refl _))
    by_cases hcd : cd = cd'
    · subst hcd
      have c13 : Steps p.tables e below (s₁.setTop (entryFrame m #[.ref x, .ref y] 3)) (T11.setTop (mkF m 37 #[.val (.ref x), .val (.ref y), .val (.ref y)] [.ref x])) := c12.trans (by
        refine XS.icmpNo X11.here hexec rfl (hb hbytes d33) rfl (ii_ne_f rfl) ?_
        refine XS.aloadN X11.here hexec rfl (hb hbytes d36) rfl rfl ?_
        exact Steps.refl _)
      obtain ⟨T14, X14, q14, st14⟩ := X11.hget hexec hown (wk W (.fieldLink "java/lang/String" 9 "java/lang/String" "value" "[B")) (hx.mv X11.warmed.alike hh11).2.1 (g := (mkF m 37 #[.val (.ref x), .val (.ref y), .val (.ref y)] [.ref x])) rfl (rest := []) rfl (hb hbytes d37)
      have hh14 := q14.trans hh11
      have c15 : Steps p.tables e below (s₁.setTop (entryFrame m #[.ref x, .ref y] 3)) (T14.setTop (mkF m 41 #[.val (.ref x), .val (.ref y), .val (.ref y)] [.ref y, .ref t])) := (c13.trans (st14 _ (Steps.refl _))).trans (by
        refine XS.aloadN X14.here hexec rfl (hb hbytes d40) rfl rfl ?_
        exact Steps.refl _)
      obtain ⟨T16, X16, q16, st16⟩ := X14.hget hexec hown (wk W (.fieldLink "java/lang/String" 9 "java/lang/String" "value" "[B")) (hy.mv X14.warmed.alike hh14).2.1 (g := (mkF m 41 #[.val (.ref x), .val (.ref y), .val (.ref y)] [.ref y, .ref t])) rfl (rest := [.ref t]) rfl (hb hbytes d41)
      have hh16 := q16.trans hh14
      have c17 : Steps p.tables e below (s₁.setTop (entryFrame m #[.ref x, .ref y] 3)) (T16.setTop (mkF m 44 #[.val (.ref x), .val (.ref y), .val (.ref y)] [.ref t', .ref t])) := c15.trans (st16 _ (Steps.refl _))
      obtain ⟨v18, T18, X18, E18, g18⟩ := X16.callS hexec (LEq.law l t V t' V') hown (wks W (staticW "java/lang/String" 541 LEq.yN)) (wk W LEq.tab) (W := 0) (Nat.le_of_ble_eq_true rfl) (Nat.le_of_ble_eq_true rfl) (Nat.le_refl _) (Nat.le_refl _) (g := (mkF m 44 #[.val (.ref x), .val (.ref y), .val (.ref y)] [.ref t', .ref t])) rfl (by rw [hml]; rfl) c17 (argsL := [.ref t, .ref t']) (rest := []) rfl rfl (by show 2 * 0 + 0 ≤ _; decide) (hb hbytes d44) (⟨rfl, hx.2.2.2.1.mv X16.warmed.alike hh16, hx.2.2.2.2.1.ty, hy.2.2.2.1.mv X16.warmed.alike hh16, hy.2.2.2.2.1.ty⟩)
      obtain ⟨v, rfl, q18, hv⟩ := E18
      have iff := Cod.eqv hx.2.2.2.2.1 hy.2.2.2.2.1 hx.2.2.2.2.2 hy.2.2.2.2.2
      rcases hv with ⟨rfl, he⟩ | ⟨rfl, he⟩
      · have c19 : Steps p.tables e below (s₁.setTop (entryFrame m #[.ref x, .ref y] 3)) (T18.setTop (mkF m 55 #[.val (.ref x), .val (.ref y), .val (.ref y)] [.int 1])) := Steps.trans g18 (by
          refine XS.ifNo X18.here hexec rfl (hb hbytes d47) rfl (i0_eq_f (by decide)) ?_
          refine iconstV X18.here hexec rfl 1 (hb hbytes d50) (by decide) ?_
          refine XS.goto X18.here hexec rfl (pc0 := 51) rfl (hb hbytes d51) (by decide) rfl ?_
          exact Steps.refl _)
        exact ⟨T18, some (.int 1), _, _, _, X18, rfl, rfl, rfl, (fun h => by cases h), ⟨1, rfl, q18.trans hh16, Or.inl ⟨rfl, iff.mp he⟩⟩, fun fs hl => c19.trans (X18.ireturnOut hexec hret rfl (Or.inr (Or.inl rfl)) (hb hbytes d55) hl)⟩
      · have c19 : Steps p.tables e below (s₁.setTop (entryFrame m #[.ref x, .ref y] 3)) (T18.setTop (mkF m 55 #[.val (.ref x), .val (.ref y), .val (.ref y)] [.int 0])) := Steps.trans g18 (by
          refine XS.ifYes X18.here hexec rfl (pc0 := 47) rfl (hb hbytes d47) rfl (i0_eq_t rfl) (by decide) rfl ?_
          refine iconstV X18.here hexec rfl 0 (hb hbytes d54) (by decide) ?_
          exact Steps.refl _)
        exact ⟨T18, some (.int 0), _, _, _, X18, rfl, rfl, rfl, (fun h => by cases h), ⟨0, rfl, q18.trans hh16, Or.inr ⟨rfl, fun q => he (iff.mpr q)⟩⟩, fun fs hl => c19.trans (X18.ireturnOut hexec hret rfl (Or.inr (Or.inl rfl)) (hb hbytes d55) hl)⟩
    · have c13 : Steps p.tables e below (s₁.setTop (entryFrame m #[.ref x, .ref y] 3)) (T11.setTop (mkF m 55 #[.val (.ref x), .val (.ref y), .val (.ref y)] [.int 0])) := c12.trans (by
        refine XS.icmpYes X11.here hexec rfl (pc0 := 33) rfl (hb hbytes d33) rfl (ii_ne_t hcd) (by decide) rfl ?_
        refine iconstV X11.here hexec rfl 0 (hb hbytes d54) (by decide) ?_
        exact Steps.refl _)
      exact ⟨T11, some (.int 0), _, _, _, X11, rfl, rfl, rfl, (fun h => by cases h), ⟨0, rfl, hh11, Or.inr ⟨rfl, Cod.dif hx.2.2.2.2.1 hy.2.2.2.2.1 hcd⟩⟩, fun fs hl => c13.trans (X11.ireturnOut hexec hret rfl (Or.inr (Or.inl rfl)) (hb hbytes d55) hl)⟩
theorem pays {l : Launch} {R : Room} {p : Program} {e : Env} {below : List Frame} {s : State} {sargs : Array Value} {len W : Nat} (x t : Addr) (V : Cell) (cd : Int32) (n : Nat) (f : Nat → Int32) (y t' : Addr) (V' : Cell) (cd' : Int32) (k : Nat) (g : Nat → Int32) (z : Int32) (htab : tab.before sargs s = true) (hfr : 2 ≤ R.frames) (hlo : W + 28 ≤ R.locals) :
    Back l R p e below s sargs yN len W (fun A₁ a₁ => A₁.cells + 0 ≤ R.cells ∧ A₁.slots + 0 ≤ R.slots ∧ P x t V cd n f y t' V' cd' k g z a₁ A₁.U) (fun A₁ _ v₁ B₁ => Says01 (SameT n f k g) v₁ A₁.U B₁.U ∧ B₁.locs = A₁.locs ++ [] ∧ B₁.cells = A₁.cells + 0 ∧ B₁.slots = A₁.slots + 0) :=
  (law l x t V cd n f y t' V' cd' k g z).pays htab hfr (by omega)
end SEq
end StrChars
namespace StrChars.Road
open Jvm Sem ClassFile Op Lib Jvm.Stand Jvm.Free Jvm.Free.XT
open Jvm.Lib.Cold (StaticIs)
/-- the words of String.equals(Object) -/
abbrev wordsEq : List Jvm.Cond := [.code SEq.yN SEq.yB 3 (some .boolean), .initialized ST, .classLink ST 10 ST, .fieldLink ST 38 ST "COMPACT_STRINGS" "Z", .fieldLink ST 15 ST "coder" "B", .fieldLink ST 9 ST "value" "[B", .methodLink ST 541 LEq.yN, .static LEq.yN, .code LEq.yN LEq.yB 3 (some .boolean), .initialized "java/lang/StringLatin1"]
theorem tabEq_of {a : Array Value} {s : State} (h : ∀ w ∈ wordsEq, w.before a s = true) : SEq.tab.before a s = true := by
  have hl : LEq.tab.before a s = true := unparts (wk h (.code LEq.yN LEq.yB 3 (some .boolean))) (wks h (.initialized LEq.yN.cls :: LEq.site))
  have q := consq hl h
  exact unparts (wk q (.code SEq.yN SEq.yB 3 (some .boolean))) (wks q (.initialized SEq.yN.cls :: SEq.site))
theorem movedEq {Z s : State} {a0 args : Array Value} (hZ : Z.Warmed39 s.vm) (hw : ∀ d ∈ wordsEq, d.before a0 Z = true) : ∀ d ∈ wordsEq, d.before args s = true := fun d hd => by
  have t : ∀ d ∈ wordsEq, (d.onTables && d.keepsFace) = true := by decide +kernel
  exact RoadKit.mv hZ (hw d hd) (t d hd)
/-- the road's facts of a String, as the laws ask it -/
theorem txt_of {Z U : State} {a0 : Array Value} {kI : Nat} (wi : (Jvm.Cond.instantiable ST kI).before a0 Z = true) (al : Z.vm.Alike U.vm) {x t : Addr} {kb : ClassId} {cs : List Int32} {cd N2 : Int32} {vs : List Value} (E : RoadKit.Exa Z U.heap x ST) (V : RoadKit.Fld Z U.heap x ST "value" "[B" (.ref t)) (C : RoadKit.Fld Z U.heap x ST "coder" "B" (.int cd)) (K : RoadKit.Arv Z U.heap t kb .byte N2 vs (.int 0)) (hc : CodA cs cd N2 vs) (hb : ∀ c ∈ cs, ¬ c < 0 ∧ ¬ (65535 : Int32) < c) (l2 : cs.length ≤ 4000) :
    ∃ A, Txt x t A cd cs.length (fun j => cs.getD j 0) U := by
  obtain ⟨A, K1, K2, K3, K4, K5, K6⟩ := K
  have hcod := hc.cod (by omega) K3 K5
  obtain ⟨D, fV, fC, hB, F1, F2, g1, g2, -, -⟩ := strObj wi al E V C
  exact ⟨A, ⟨_, hB.2.2.1, D, hB.1, rfl, by cases q : D.vm <;> first | rfl | exact absurd q (hB.2.1.2 _)⟩, Has.of hB F1 g1, Has.of hB F2 g2, ⟨K1.1, State.isArrayOf_alike al K1.2.1, K1.2.2, by rcases hcod with ⟨-, q, -⟩ | ⟨-, q, -⟩ <;> omega⟩, hcod, fun j hj => by
    have e : cs.getD j 0 = cs[j] := by simp [List.getD_eq_getElem?_getD, hj]
    show ¬ cs.getD j 0 < 0 ∧ ¬ 65535 < cs.getD j 0
    rw [e]; exact hb _ (List.getElem_mem _)⟩
theorem same_list (cs ds : List Int32) : SameT cs.length (fun j => cs.getD j 0) ds.length (fun j => ds.getD j 0) ↔ cs = ds := by
  constructor
  · rintro ⟨e, q⟩
    refine List.ext_getElem e fun j h1 h2 => ?_
    have := q j h1
    simpa [List.getD_eq_getElem?_getD, h1, h2] using this
  · rintro rfl
    exact ⟨rfl, fun _ _ => rfl⟩
/-- **equals(Object) OF TWO SUCH STRINGS**: 1 just where the chars are the same -/
theorem eqW {p : Program} {l : Launch} {e : Env} {R : Room} {s : State} {args : Array Value} {below : List Frame} {len W : Nat} {Z : State} {a0 : Array Value} {h : Heap} (hZ : Z.Warmed39 s.vm) (hw : ∀ d ∈ wordsEq, d.before a0 Z = true) {kI : Nat} (wi : (Jvm.Cond.instantiable ST kI).before a0 Z = true)
    {x t : Addr} {kb : ClassId} {cs : List Int32} {cd N2 : Int32} {vs : List Value} (E : RoadKit.Exa Z h x ST) (V : RoadKit.Fld Z h x ST "value" "[B" (.ref t)) (C : RoadKit.Fld Z h x ST "coder" "B" (.int cd)) (K : RoadKit.Arv Z h t kb .byte N2 vs (.int 0)) (hc : CodA cs cd N2 vs) (hb : ∀ c ∈ cs, ¬ c < 0 ∧ ¬ (65535 : Int32) < c) (l2 : cs.length ≤ 4000)
    {y t' : Addr} {kb' : ClassId} {ds : List Int32} {cd' N2' : Int32} {vs' : List Value} (E' : RoadKit.Exa Z h y ST) (V' : RoadKit.Fld Z h y ST "value" "[B" (.ref t')) (C' : RoadKit.Fld Z h y ST "coder" "B" (.int cd')) (K' : RoadKit.Arv Z h t' kb' .byte N2' vs' (.int 0)) (hc' : CodA ds cd' N2' vs') (hb' : ∀ c ∈ ds, ¬ c < 0 ∧ ¬ (65535 : Int32) < c) (l2' : ds.length ≤ 4000)
    {z : Int32} (S : RoadKit.Sta Z h ST "COMPACT_STRINGS" "Z" (.int z)) (hz : ¬ z = 0) (hfr : 2 ≤ R.frames) (hlo : W + 28 ≤ R.locals) :
    Back l R p e below s args (⟨"java/lang/String", "equals", "(Ljava/lang/Object;)Z"⟩ : MethodName) len W (fun P a => a = #[.ref x, .ref y] ∧ P.U.heap = h ∧ P.cells + 0 ≤ R.cells ∧ P.slots + 0 ≤ R.slots)
      (fun P _ v B => ∃ L, (((v = some (.int 1) ∧ cs = ds) ∨ (v = some (.int 0) ∧ ¬ cs = ds)) ∧ L = [] ∧ B.U.heap = h) ∧ B.locs = P.locs ++ L ∧ B.cells = P.cells + 0 ∧ B.slots = P.slots + 0) := by
  intro m meth c P g ig mk a X hg hsize hdg hW hn hp'
  obtain ⟨rfl, rfl, r1, r2⟩ := hp'
  have al : Z.vm.Alike P.U.vm := hZ.alike.trans X.warmed.alike
  obtain ⟨A, hx⟩ := txt_of wi al E V C K hc hb l2
  obtain ⟨A', hy⟩ := txt_of wi al E' V' C' K' hc' hb' l2'
  obtain ⟨v, B, X', ⟨⟨w, hv, hh, hq⟩, hl, hk, hs⟩, st⟩ := SEq.pays x t A cd cs.length (fun j => cs.getD j 0) y t' A' cd' ds.length (fun j => ds.getD j 0) z (tabEq_of (movedEq hZ hw)) hfr hlo m meth c P g ig mk _ X hg hsize hdg hW hn ⟨r1, r2, rfl, hx, hy, sta_is al S, hz⟩
  refine ⟨v, B, X', ⟨[], ⟨?_, rfl, hh⟩, hl, hk, hs⟩, st⟩
  rcases hq with ⟨rfl, q⟩ | ⟨rfl, q⟩
  · exact Or.inl ⟨hv, (same_list cs ds).mp q⟩
  · exact Or.inr ⟨hv, fun e => q ((same_list cs ds).mpr e)⟩
end StrChars.Road
end Jvm.Pilot.@@N@@
namespace Jvm.RoadKit
open Sem ClassFile Op Lib Bundle Jvm.Stand Jvm.Free Jvm.LawKit Jvm.Free.SB Jvm.Free.SBG
/-- a String whose array is not set yet is no constant's -/
theorem own_safe_null {Z : State} {h : Heap} {vm : Vm} {EL : List (String × Nat)} {a : Addr} (hal : Z.vm.Alike vm) (E : Exa Z h a "java/lang/String") (F : Fld Z h a "java/lang/String" "value" "[B" .null) : Safe Z EL vm h a := fun B => by
  obtain ⟨cell, k, e1, e2, e3, -, -⟩ := E
  obtain ⟨cell', cf, k', i, f, f1, f2, f3, f4, -, -, f7⟩ := F
  cases e1.symm.trans f1
  obtain ⟨p, -, u, b, -, q, -, SB, rfl | rfl⟩ := B
  · cases (show h[q.sa]? = some q.sC from SB.ha).symm.trans e1
    obtain ⟨cS, ⟨⟨-, -, -, ⟨c1, k1, i1, g1, -⟩, -, -, -, v1, -⟩, -⟩, -⟩ := SB
    obtain ⟨k3, e3', -⟩ := State.fieldFound?_setVm (s := Z) hal f2
    have e4 := (show (Wst Z vm h).fieldFound? "java/lang/String" "value" "[B" = some (cf, k3, i, f) from e3').symm.trans g1
    simp only [Option.some.injEq, Prod.mk.injEq] at e4
    rw [← e4.2.2.2, f7] at v1
    cases v1
  · cases (show h[q.sd]? = some q.SA from SB.hd).symm.trans e1
    obtain ⟨cS, -, -, fB, -⟩ := SB
    have fB : vm.findClass "[B" = some q.SA.cls := fB
    rw [hal.findClass] at fB
    obtain ⟨k1, q1, q2⟩ := Vm.findClass_spec fB
    obtain ⟨k2, q3, q4⟩ := Vm.findClass_spec e2
    cases q1.symm.trans q3
    exact absurd (q2.symm.trans q4) (by decide)
end Jvm.RoadKit
namespace Jvm.Pilot.@@N@@
open Jvm Jvm.ClassFile Sem Op Lib Jvm.Free Jvm.Stand Jvm.LawKit Jvm.RoadKit Bundle Jvm.Pilot.@@N@@.Jvm.D
theorem own_go {tb : Tables} {e : Env} {below : List Frame} {A B : State} {P : State → Outcome → Prop} (st : ∀ t, Steps tb e below B t → Steps tb e below A t) (k : ∃ t o, Steps tb e below B t ∧ P t o) : ∃ t o, Steps tb e below A t ∧ P t o := by
  obtain ⟨t, o, h1, h2⟩ := k
  exact ⟨t, o, st t h1, h2⟩
theorem own_goT {tb : Tables} {e : Env} {below : List Frame} {A B : State} {P : State → Outcome → Prop} (st : Steps tb e below A B) (k : ∃ t o, Steps tb e below B t ∧ P t o) : ∃ t o, Steps tb e below A t ∧ P t o := by
  obtain ⟨t, o, h1, h2⟩ := k
  exact ⟨t, o, st.trans h1, h2⟩
theorem own_nfo {args : Array Value} {s : State} {C : String} {x y z : MethodName} (hsel : (Jvm.Cond.selects C x z).before args s = true) (e : z.cls = y.cls) : NotFace s y := fun r0 h0 => by
  obtain ⟨c2, r2, m2, q1, q2, q3, q4, kP, hkP, hkPi⟩ := Cond.selects_spec hsel
  have a1 := findClass_of_methodNamed q3
  have a2 := findClass_of_methodNamed h0
  rw [e] at a1
  have e2 := Option.some.inj (a1.symm.trans a2)
  exact ⟨kP, by rw [← e2]; exact hkP, hkPi⟩
theorem own_ifc {α : Type} {P R : Prop} [Decidable P] [Decidable R] (a b : α) (h : P ↔ R) : (if P then a else b) = (if R then a else b) := by
  by_cases q : P
  · rw [if_pos q, if_pos (h.mp q)]
  · rw [if_neg q, if_neg fun r => q (h.mpr r)]
theorem own_ne {a b : Nat} (h : a < b ∨ b < a) : a ≠ b := by omega
theorem own_keep_le {h h' : Heap} {ws : List Addr} (K : Keep h h' ws) : h.size ≤ h'.size := K.1
theorem own_and255 (x : Int32) : ¬ nar .char ((x &&& (255 : Int32)).toUInt32.toUInt16.toUInt32.toInt32) < 0 ∧ ¬ (255 : Int32) < nar .char ((x &&& (255 : Int32)).toUInt32.toUInt16.toUInt32.toInt32) := by
  have t : ∀ k : Fin 256, ¬ nar .char ((Int32.ofNat k.val).toUInt32.toUInt16.toUInt32.toInt32) < 0 ∧ ¬ (255 : Int32) < nar .char ((Int32.ofNat k.val).toUInt32.toUInt16.toUInt32.toInt32) := by decide +kernel
  have h : (x &&& 255).toBitVec.toNat < 256 := by
    simp only [Int32.toBitVec_and, BitVec.toNat_and]
    exact Nat.lt_succ_of_le Nat.and_le_right
  have e : (x &&& 255) = Int32.ofNat (x &&& 255).toBitVec.toNat := by
    apply Int32.toBitVec_inj.mp
    show _ = BitVec.ofNat 32 _
    rw [BitVec.ofNat_toNat]; simp
  rw [e]
  exact t ⟨_, h⟩
theorem own_up (cs : List Int32) (h : ∀ c ∈ cs, ¬ c < 0 ∧ ¬ (255 : Int32) < c) : ∀ c ∈ cs, ¬ c < 0 ∧ ¬ (65535 : Int32) < c := fun c hc => ⟨(h c hc).1, fun q => (h c hc).2 (by rw [Int32.lt_iff_toInt_lt] at q ⊢; have e1 : (65535 : Int32).toInt = 65535 := rfl; have e2 : (255 : Int32).toInt = 255 := rfl; omega)⟩
theorem own_all0 : ∀ c ∈ ([] : List Int32), ¬ c < 0 ∧ ¬ (255 : Int32) < c := fun _ q => nomatch q
theorem own_allS {x : Int32} {cs : List Int32} (q : ¬ x < 0 ∧ ¬ (255 : Int32) < x) (r : ∀ c ∈ cs, ¬ c < 0 ∧ ¬ (255 : Int32) < c) : ∀ c ∈ x :: cs, ¬ c < 0 ∧ ¬ (255 : Int32) < c := fun c z => (List.mem_cons.mp z).elim (fun u => u ▸ q) (r c)

def own_EL : List (String × Nat) := [("java/lang/String", 7)]
theorem own_mem : (("java/lang/String", 7) : String × Nat) ∈ own_EL := List.mem_cons_self
def own_len (s1 : Int32) : Int32 := ((((s1.toUInt32 >>> ((16 : Int32) &&& 31).toUInt32).toInt32) &&& (32767 : Int32)) % (3 : Int32))
def own_ca (s1 : Int32) : Int32 := (nar .char ((s1 &&& (255 : Int32)).toUInt32.toUInt16.toUInt32.toInt32))
def own_cb (s1 : Int32) : Int32 := (nar .char ((((s1.toUInt32 >>> ((8 : Int32) &&& 31).toUInt32).toInt32) &&& (255 : Int32)).toUInt32.toUInt16.toUInt32.toInt32))
def own_cs (s1 : Int32) : List Int32 := if own_len s1 = 0 then [] else if own_len s1 = 1 then [own_ca s1] else [own_ca s1, own_cb s1]
theorem own_cs0 {s1 : Int32} (h : own_len s1 = 0) : own_cs s1 = [] := if_pos h
theorem own_cs1 {s1 : Int32} (h0 : ¬ own_len s1 = 0) (h : own_len s1 = 1) : own_cs s1 = [own_ca s1] := by unfold own_cs; rw [if_neg h0, if_pos h]
theorem own_cs2 {s1 : Int32} (h0 : ¬ own_len s1 = 0) (h : ¬ own_len s1 = 1) : own_cs s1 = [own_ca s1, own_cb s1] := by unfold own_cs; rw [if_neg h0, if_neg h]
theorem own_csr (s1 : Int32) : ∀ c ∈ own_cs s1, ¬ c < 0 ∧ ¬ (255 : Int32) < c := by
  by_cases h0 : own_len s1 = 0
  · rw [own_cs0 h0]; exact own_all0
  · by_cases h1 : own_len s1 = 1
    · rw [own_cs1 h0 h1]; exact own_allS (own_and255 _) own_all0
    · rw [own_cs2 h0 h1]; exact own_allS (own_and255 _) (own_allS (own_and255 _) own_all0)
theorem own_csl (s1 : Int32) : (own_cs s1).length ≤ 4000 := by unfold own_cs; split; exact Nat.le_of_ble_eq_true rfl; split <;> exact Nat.le_of_ble_eq_true rfl
theorem own_lenr (s1 : Int32) : own_len s1 = 0 ∨ own_len s1 = 1 ∨ own_len s1 = 2 := by
  have c1 := c_and ((s1.toUInt32 >>> ((16 : Int32) &&& 31).toUInt32).toInt32) 32767 (by decide)
  have c2 := (c_irem (((s1.toUInt32 >>> ((16 : Int32) &&& 31).toUInt32).toInt32) &&& (32767 : Int32)) 3 3 rfl).1 c1.1
  have h : (own_len s1).toInt = 0 ∨ (own_len s1).toInt = 1 ∨ (own_len s1).toInt = 2 := by
    have e : (own_len s1).toInt = _ := c2
    omega
  rcases h with h | h | h
  · exact Or.inl (Int32.toInt_inj.mp h)
  · exact Or.inr (Or.inl (Int32.toInt_inj.mp h))
  · exact Or.inr (Or.inr (Int32.toInt_inj.mp h))
theorem own_cinj {x y : Int32} (h : nar .char ((x &&& (255 : Int32)).toUInt32.toUInt16.toUInt32.toInt32) = nar .char ((y &&& (255 : Int32)).toUInt32.toUInt16.toUInt32.toInt32)) : (x &&& (255 : Int32)) = (y &&& (255 : Int32)) := by
  have t : ∀ z : Int32, (nar .char ((z &&& (255 : Int32)).toUInt32.toUInt16.toUInt32.toInt32)).toInt = (z &&& (255 : Int32)).toInt := fun z => by
    have c := c_and z 255 (by decide)
    have e5 : (255 : Int32).toInt = 255 := rfl
    have c1 := c_i2c (z &&& 255)
    have c2 := c_i2c ((z &&& 255).toUInt32.toUInt16.toUInt32.toInt32)
    show ((z &&& (255 : Int32)).toUInt32.toUInt16.toUInt32.toInt32.toUInt32.toUInt16.toUInt32.toInt32).toInt = _
    omega
  exact Int32.toInt_inj.mp (by rw [← t x, ← t y, h])
/-- a String at b that says cs -/
def own_Str (Z : State) (h : Heap) (b : Nat) (cs : List Int32) : Prop := ∃ (tb : Nat) (kb : ClassId) (N2 : Int32) (vs : List Value), Exa Z h b "java/lang/String" ∧ Fld Z h b "java/lang/String" "value" "[B" (.ref tb) ∧ Fld Z h b "java/lang/String" "coder" "B" (.int (0 : Int32)) ∧ Arv Z h tb kb .byte N2 vs (.int (0 : Int32)) ∧ StrChars.Road.CodA cs 0 N2 vs
theorem own_Str.exa {Z : State} {h : Heap} {b : Nat} {cs : List Int32} (H : own_Str Z h b cs) : Exa Z h b "java/lang/String" := by obtain ⟨_, _, _, _, E, -⟩ := H; exact E
theorem own_Str.ext {Z : State} {h h' : Heap} {b : Nat} {cs : List Int32} (H : own_Str Z h b cs) (E : Ext h h') : own_Str Z h' b cs := by obtain ⟨tb, kb, N2, vs, a1, a2, a3, a4, a5⟩ := H; exact ⟨tb, kb, N2, vs, Exa.ext E a1, Fld.ext E a2, Fld.ext E a3, a4.ext E, a5⟩
theorem own_Str.keep0 {Z : State} {h h' : Heap} {b : Nat} {cs : List Int32} (H : own_Str Z h b cs) (K : Keep h h' []) : own_Str Z h' b cs := by obtain ⟨tb, kb, N2, vs, a1, a2, a3, a4, a5⟩ := H; exact ⟨tb, kb, N2, vs, a1.keep K, a2.keep K nin0, a3.keep K nin0, a4.keep K nin0, a5⟩
theorem own_Str.keep1 {Z : State} {h h' : Heap} {b : Nat} {cs : List Int32} {y n : Nat} {a0 : Array Value} {C : String} (H : own_Str Z h b cs) (K : Keep h h' [y]) (E : Exa Z h y C) (w : (Jvm.Cond.instantiable C n).before a0 Z = true) (ne : b ≠ y) : own_Str Z h' b cs := by
  obtain ⟨tb, kb, N2, vs, a1, a2, a3, a4, a5⟩ := H
  have ne2 : tb ≠ y := Ne.symm (Exa.neArv E a4 w)
  exact ⟨tb, kb, N2, vs, a1.keep K, a2.keep K (ninS ne nin0), a3.keep K (ninS ne nin0), a4.keep K (ninS ne2 nin0), a5⟩
theorem own_nosub2 {Z : State} {a0 : Array Value} {A D K : String} {n : Nat} (w1 : (Jvm.Cond.superclass A D).before a0 Z = true) (w3 : (Jvm.Cond.noSuperclass D).before a0 Z = true) (wk : (Jvm.Cond.instantiable K n).before a0 Z = true)
    (nA : A ≠ K) (nD : D ≠ K) {cA cK : ClassId} (hA : Z.vm.findClass A = some cA) (hK : Z.vm.findClass K = some cK) : Z.vm.assignable cA cK = false := by
  obtain ⟨cD, kA, kD, hD, hkA, hkD, hsA, hoA, -, -⟩ := Cond.superclass_spec hA w1
  obtain ⟨cD', kD', hD', hkD', hsD, -, -⟩ := Cond.noSuperclass_spec w3
  cases hD.symm.trans hD'
  cases hkD.symm.trans hkD'
  obtain ⟨cK', kK, hK', hkK, hoK, hiK, -, -⟩ := Cond.instantiable_spec wk
  cases hK.symm.trans hK'
  have ne : ∀ {X : String} {cX : ClassId}, Z.vm.findClass X = some cX → X ≠ K → cX ≠ cK := fun {X cX} hX nX e => by
    subst e
    obtain ⟨k1, p1, p2⟩ := Vm.findClass_spec hX
    obtain ⟨k2, q1, q2⟩ := Vm.findClass_spec hK
    cases p1.symm.trans q1
    exact nX (p2.symm.trans q2)
  have hAK := ne hA nA
  have hDK := ne hD nD
  have hi : kK.isInterface = false := by
    cases h : kK.isInterface with
    | false => rfl
    | true => simp [h] at hiK
  have sub : ∀ fuel, Z.vm.isSubclassAux fuel cA cK = false := fun fuel => by
    cases fuel with
    | zero => rfl
    | succ f =>
      cases f with
      | zero => simp [Vm.isSubclassAux, hAK, hkA, hsA]
      | succ f' => simp [Vm.isSubclassAux, hAK, hDK, hkA, hsA, hkD, hsD]
  show Z.vm.assignableAux (255 + 1) cA cK = false
  simp [Vm.assignableAux, hAK, hkA, hkK, hoA, hoK, hi, Vm.isSubclass, sub]
theorem own_noins2 {Z : State} {a0 : Array Value} {A D K : String} {n : Nat} (w1 : (Jvm.Cond.superclass A D).before a0 Z = true) (w3 : (Jvm.Cond.noSuperclass D).before a0 Z = true) (wk : (Jvm.Cond.instantiable K n).before a0 Z = true) (nA : A ≠ K) (nD : D ≠ K) : ∃ c t, Z.vm.findClass A = some c ∧ Z.vm.findClass K = some t ∧ Z.vm.assignable c t = false := by
  obtain ⟨cA, hA⟩ := found_sup w1
  obtain ⟨cK, kK, hK, -⟩ := Cond.instantiable_spec wk
  exact ⟨cA, cK, hA, hK, own_nosub2 w1 w3 wk nA nD hA hK⟩
theorem ef_rmLen (m : MethodId) (x0 : Int32) : entryFrame m #[(.int x0)] 1 = mkF m 0 #[.val (.int x0)] [] := by first | (simp [entryFrame, mkF, argsToLocals, Value.category]; done) | rfl
theorem d2_0 : decode method_3_code 0 = .ok (.iload_n 0, 1) := by decide +kernel
theorem d2_1 : decode method_3_code 1 = .ok (.bipush 16, 2) := by decide +kernel
theorem d2_3 : decode method_3_code 3 = .ok (.iushr, 1) := by decide +kernel
theorem d2_4 : decode method_3_code 4 = .ok (.sipush 32767, 3) := by decide +kernel
theorem d2_7 : decode method_3_code 7 = .ok (.iand, 1) := by decide +kernel
theorem d2_8 : decode method_3_code 8 = .ok (.iconst 3, 1) := by decide +kernel
theorem d2_9 : decode method_3_code 9 = .ok (.irem, 1) := by decide +kernel
theorem d2_10 : decode method_3_code 10 = .ok (.ireturn, 1) := by decide +kernel
theorem pn_com_example_ipomoea_ipomoea_store_JobKeyEqualsPinLaw : plainName "com/example/ipomoea/ipomoea/store/JobKeyEqualsPinLaw" = true := by first | (simp [plainName, overriddenIn]; done) | decide +kernel
def Q_rmLen (Z : State) (s1 : Int32) (h0 : Heap) (n0 : Nat) (v : Option Value) (h : Heap) (L : List Loc) : Prop := ∃ (r1 : Int32), v = some (.int r1) ∧ Fr n0 L ∧ h = h0 ∧ (r1 = own_len s1)
set_option maxRecDepth 65536 in
set_option maxHeartbeats 40000000 in
theorem rmLen (l : Launch) (Z : State) (a0 : Array Value) (hw : ∀ d ∈ tables_1, d.before a0 Z = true) (ws : List Jvm.Cond) (s1 : Int32) (h0 : Heap) (n0 : Nat) (Z0 : n0 ≤ h0.size) (OLD : Old Z n0 h0) :
    MetFree l (⟨"com/example/ipomoea/ipomoea/store/JobKeyEqualsPinLaw", "len", "(I)I"⟩ : MethodName) (head1 (Jvm.Cond.code (⟨"com/example/ipomoea/ipomoea/store/JobKeyEqualsPinLaw", "len", "(I)I"⟩ : MethodName) method_3_code 1 (some .int) :: ws) ({ frames := 0, cells := 0, slots := 0, locals := 0 } : Room)) (fun a U => a = #[(.int s1)] ∧ Z.Warmed39 U.vm ∧ U.heap = h0) (fun _ _ _ _ _ => True) (fun _ U o U' => ∃ v L, o = .returned v ∧ Q_rmLen Z s1 h0 n0 v U'.heap L ∧ FrameEnd U o U' L ({ frames := 0, cells := 0, slots := 0, locals := 0 } : Room).cells ({ frames := 0, cells := 0, slots := 0, locals := 0 } : Room).slots) := by
  refine MetFree.of_bodySF (plainFor_of_name pn_com_example_ipomoea_ipomoea_store_JobKeyEqualsPinLaw) hisR ?_
  intro p e s m args below meth c s₁ Bd hml0 hP hK
  obtain ⟨rfl, hZ, hh⟩ := hP
  have hx := Bd.exec
  have hby := Bd.bytes
  have hml : c.maxLocals = 1 := hml0
  have hown : s.vm.findClass "com/example/ipomoea/ipomoea/store/JobKeyEqualsPinLaw" = some m.cls := findClass_of_methodNamed Bd.named
  have hnm := (name_of_methodNamed Bd.named Bd.method).1
  have X0 : Stand p l e ({ frames := 0, cells := 0, slots := 0, locals := 0 } : Room) s m #[(.int s1)] below meth c s₁ [] 0 0 := Stand.of_body Bd
  have e0 : s₁.heap = h0 := by rw [← hh, Bd.state]; rfl
  have N0 := Fr.nil n0
  have pre0 : ∀ t, Steps p.tables e below (s₁.setTop (mkF m 0 #[.val (.int s1)] [])) t → Steps p.tables e below (s₁.setTop (entryFrame m #[(.int s1)] 1)) t := fun t k => castTop (ef_rmLen m s1) k
  have oz := OLD.1
  refine own_go (B := s₁.setTop (mkF m 0 #[.val (.int s1)] [])) pre0 ?_
  show ∃ t o, Steps p.tables e below (s₁.setTop (mkF m 0 #[.val (.int s1)] [])) t ∧ _
  refine own_go (fun _ => XS.iloadN X0.here hx rfl (hb hby d2_0) rfl) ?_
  refine own_go (fun _ => XS.bipush X0.here hx rfl (hb hby d2_1)) ?_
  refine own_go (fun _ => XS.iushr X0.here hx rfl (hb hby d2_3) rfl) ?_
  show ∃ t o, Steps p.tables e below (s₁.setTop (mkF m 4 #[.val (.int s1)] [(.int ((s1.toUInt32 >>> ((16 : Int32) &&& 31).toUInt32).toInt32))])) t ∧ _
  refine own_go (fun _ => XS.sipush X0.here hx rfl (hb hby d2_4)) ?_
  refine own_go (fun _ => XS.iand X0.here hx rfl (hb hby d2_7) rfl) ?_
  refine own_go (fun _ => XS.iconst X0.here hx rfl (hb hby d2_8)) ?_
  show ∃ t o, Steps p.tables e below (s₁.setTop (mkF m 9 #[.val (.int s1)] [(.int (3 : Int32)), (.int (((s1.toUInt32 >>> ((16 : Int32) &&& 31).toUInt32).toInt32) &&& (32767 : Int32)))])) t ∧ _
  refine own_go (fun _ => iremM X0 hx rfl (hb hby d2_9) rfl (by decide)) ?_
  show ∃ t o, Steps p.tables e below (s₁.setTop (mkF m 10 #[.val (.int s1)] [(.int ((((s1.toUInt32 >>> ((16 : Int32) &&& 31).toUInt32).toInt32) &&& (32767 : Int32)) % (3 : Int32)))])) t ∧ _
  obtain ⟨fs, hr, hrun, hended, hW, hsame⟩ := X0.leave (v := some (.int ((((s1.toUInt32 >>> ((16 : Int32) &&& 31).toUInt32).toInt32) &&& (32767 : Int32)) % (3 : Int32)))) (fun h => by rw [Bd.returns] at h; cases h)
  refine ⟨_, _, ?_, hrun, hended, _, _, rfl, ?_, ⟨_, rfl⟩, hW, hsame.mono (by decide) (by decide)⟩
  · exact retI X0 hx Bd.returns (hb hby d2_10) hr
  · show Q_rmLen Z _ h0 n0 _ s₁.heap _
    rw [e0]
    exact ⟨((((s1.toUInt32 >>> ((16 : Int32) &&& 31).toUInt32).toInt32) &&& (32767 : Int32)) % (3 : Int32)), rfl, N0, rfl, rfl⟩
theorem ef_rmS4 (m : MethodId) (x0 : Nat) (x1 : Nat) (x2 : Int32) (x3 : Int32) : entryFrame m #[(.ref x0), (.ref x1), (.int x2), (.int x3), .null] 6 = mkF m 0 #[.val (.ref x0), .val (.ref x1), .val (.int x2), .val (.int x3), .val .null, .unset] [] := by first | (simp [entryFrame, mkF, argsToLocals, Value.category]; done) | rfl
theorem d4_0 : decode jdk_42_method_149_code 0 = .ok (.aload_n 0, 1) := by decide +kernel
theorem d4_1 : decode jdk_42_method_149_code 1 = .ok (.invokespecial 1, 3) := by decide +kernel
theorem d4_4 : decode jdk_42_method_149_code 4 = .ok (.iload_n 3, 1) := by decide +kernel
theorem d4_5 : decode jdk_42_method_149_code 5 = .ok (.ifCond .ne 22, 3) := by decide +kernel
theorem d4_8 : decode jdk_42_method_149_code 8 = .ok (.aload_n 0, 1) := by decide +kernel
theorem d4_9 : decode jdk_42_method_149_code 9 = .ok (.ldc 7, 2) := by decide +kernel
theorem d4_11 : decode jdk_42_method_149_code 11 = .ok (.getfield 9, 3) := by decide +kernel
theorem d4_14 : decode jdk_42_method_149_code 14 = .ok (.putfield 9, 3) := by decide +kernel
theorem d4_17 : decode jdk_42_method_149_code 17 = .ok (.aload_n 0, 1) := by decide +kernel
theorem d4_18 : decode jdk_42_method_149_code 18 = .ok (.ldc 7, 2) := by decide +kernel
theorem d4_20 : decode jdk_42_method_149_code 20 = .ok (.getfield 15, 3) := by decide +kernel
theorem d4_23 : decode jdk_42_method_149_code 23 = .ok (.putfield 15, 3) := by decide +kernel
theorem d4_26 : decode jdk_42_method_149_code 26 = .ok (.return_, 1) := by decide +kernel
theorem pn_java_lang_String : plainName "java/lang/String" = true := by first | (simp [plainName, overriddenIn]; done) | decide +kernel
def Q_rmS4 (Z : State) (a1 : Nat) (ca : Nat) (h0 : Heap) (n0 : Nat) (v : Option Value) (h : Heap) (L : List Loc) : Prop := ∃ (tb : Nat), ∃ (kb : ClassId), v = none ∧ Fr n0 L ∧ Keep h0 h [a1] ∧ Exa Z h a1 "java/lang/String" ∧ Fld Z h a1 "java/lang/String" "value" "[B" (.ref tb) ∧ Fld Z h a1 "java/lang/String" "coder" "B" (.int (0 : Int32)) ∧ Arv Z h tb kb .byte (0 : Int32) [] (.int (0 : Int32))
set_option maxRecDepth 65536 in
set_option maxHeartbeats 40000000 in
theorem rmS4 (l : Launch) (Z : State) (a0 : Array Value) (hw : ∀ d ∈ tables_1, d.before a0 Z = true) (ws : List Jvm.Cond) (a1 : Nat) (ca : Nat) (h0 : Heap) (n0 : Nat) (Z0 : n0 ≤ h0.size) (P1 : Exa Z h0 a1 "java/lang/String") (P2 : Fld Z h0 a1 "java/lang/String" "value" "[B" .null) (P3 : Fld Z h0 a1 "java/lang/String" "coder" "B" (.int (0 : Int32))) (OLD : Old Z n0 h0) (ga : n0 ≤ a1) (hEL : EW Z a0 own_EL) :
    MetFree l (⟨"java/lang/String", "<init>", "([CIILjava/lang/Void;)V"⟩ : MethodName) (head1 (Jvm.Cond.code (⟨"java/lang/String", "<init>", "([CIILjava/lang/Void;)V"⟩ : MethodName) jdk_42_method_149_code 6 none :: ws) ({ frames := 1, cells := 4, slots := 8, locals := 12 } : Room)) (fun a U => a = #[(.ref a1), (.ref ca), (.int (0 : Int32)), (.int (0 : Int32)), .null] ∧ Z.Warmed39 U.vm ∧ U.heap = h0 ∧ CHv Z own_EL U.vm h0) (fun _ _ _ _ _ => True) (fun _ U o U' => ∃ v L, o = .returned v ∧ Q_rmS4 Z a1 ca h0 n0 v U'.heap L ∧ CHr Z own_EL U.vm U.heap U'.vm U'.heap ∧ ReturnedEndW U o U' L ({ frames := 1, cells := 4, slots := 8, locals := 12 } : Room).cells ({ frames := 1, cells := 4, slots := 8, locals := 12 } : Room).slots) := by
  refine MetFree.of_bodySF (plainFor_of_name pn_java_lang_String) hisR ?_
  intro p e s m args below meth c s₁ Bd hml0 hP hK
  obtain ⟨rfl, hZ, hh, hCH⟩ := hP
  have hx := Bd.exec
  have hby := Bd.bytes
  have hml : c.maxLocals = 6 := hml0
  have hown : s.vm.findClass "java/lang/String" = some m.cls := findClass_of_methodNamed Bd.named
  have hnm := (name_of_methodNamed Bd.named Bd.method).1
  have X0 : Stand p l e ({ frames := 1, cells := 4, slots := 8, locals := 12 } : Room) (s.setVm s.vm) m #[(.ref a1), (.ref ca), (.int (0 : Int32)), (.int (0 : Int32)), .null] below meth c s₁ [] 0 0 := Stand.of_body Bd
  have e0 : s₁.heap = h0 := by rw [← hh, Bd.state]; rfl
  have N0 := Fr.nil n0
  have pre0 : ∀ t, Steps p.tables e below (s₁.setTop (mkF m 0 #[.val (.ref a1), .val (.ref ca), .val (.int (0 : Int32)), .val (.int (0 : Int32)), .val .null, .unset] [])) t → Steps p.tables e below (s₁.setTop (entryFrame m #[(.ref a1), (.ref ca), (.int (0 : Int32)), (.int (0 : Int32)), .null] 6)) t := fun t k => castTop (ef_rmS4 m a1 ca (0 : Int32) (0 : Int32)) k
  have hZ : Z.Warmed39 (s.setVm s.vm).vm := hZ
  have hown : (s.setVm s.vm).vm.findClass "java/lang/String" = some m.cls := hown
  have hS : s.Since s.vm 0 := (State.WarmedH.refl s).since 0
  have CH0 : CHr Z own_EL s.vm h0 s.vm h0 := CHr.refl hCH
  have wS : ∀ a ∈ Bundle.stringAtoms, a.before a0 Z = true := fun d hd => hw d ((by decide +kernel : ∀ d ∈ Bundle.stringAtoms, d ∈ tables_1) d hd)
  have oz := OLD.1
  have lt_a1 : a1 < h0.size := P1.lt
  have Sf0 := own_safe_null (EL := own_EL) hZ.alike P1 P2
  refine own_go (B := s₁.setTop (mkF m 0 #[.val (.ref a1), .val (.ref ca), .val (.int (0 : Int32)), .val (.int (0 : Int32)), .val .null, .unset] [])) pre0 ?_
  show ∃ t o, Steps p.tables e below (s₁.setTop (mkF m 0 #[.val (.ref a1), .val (.ref ca), .val (.int (0 : Int32)), .val (.int (0 : Int32)), .val .null, .unset] [])) t ∧ _
  refine own_go (fun _ => XS.aloadN X0.here hx rfl (hb hby d4_0) rfl rfl) ?_
  show ∃ t o, Steps p.tables e below (s₁.setTop (mkF m 1 #[.val (.ref a1), .val (.ref ca), .val (.int (0 : Int32)), .val (.int (0 : Int32)), .val .null, .unset] [(.ref a1)])) t ∧ _
  obtain ⟨T4, X4, e4, st4⟩ := initO X0 hx hZ hown (hw _ (List.mem_of_getElem? (i := 21) rfl)) (hw _ (List.mem_of_getElem? (i := 22) rfl)) (hw _ (List.mem_of_getElem? (i := 23) rfl)) e0 (g := (mkF m 1 #[.val (.ref a1), .val (.ref ca), .val (.int (0 : Int32)), .val (.int (0 : Int32)), .val .null, .unset] [(.ref a1)])) rfl (by rw [hml]; rfl) rfl (hb hby d4_1) (by decide) (W := 0) (by show 2 * 0 + _ ≤ _; exact Nat.le_of_eq rfl) (by decide)
  refine own_go st4 ?_
  refine own_go (fun _ => XS.iloadN X4.here hx rfl (hb hby d4_4) rfl) ?_
  show ∃ t o, Steps p.tables e below (T4.setTop (mkF m 5 #[.val (.ref a1), .val (.ref ca), .val (.int (0 : Int32)), .val (.int (0 : Int32)), .val .null, .unset] [(.int (0 : Int32))])) t ∧ _
  refine own_go (fun _ => XS.ifNo X4.here hx rfl (hb hby d4_5) rfl ((if0 _ _).trans (teq (by decide : (0 : Int32) = (0 : Int32))).2)) ?_
  refine own_go (fun _ => XS.aloadN X4.here hx rfl (hb hby d4_8) rfl rfl) ?_
  obtain ⟨a5, T5, h5, kS5, b5, kb5, X5, e5, E5, hS, hk5, hZ, hown, A5, Fc5, Fv5, Av5, lta5, ltb5, cr5, -, hne5, st5⟩ := ldcCH X4 hx hZ hown (hw _ (List.mem_of_getElem? (i := 24) rfl)) wS e4 hS (Nat.zero_le _) hEL own_mem CH0.1 (vs := []) (z := 0) ⟨by decide, rfl⟩ (by decide) rfl (g := (mkF m 9 #[.val (.ref a1), .val (.ref ca), .val (.int (0 : Int32)), .val (.int (0 : Int32)), .val .null, .unset] [(.ref a1)])) rfl (hb hby d4_9) (n := 0) (by decide) (by decide) (by decide) (by decide)
  refine own_go st5 ?_
  have K5 : Keep h0 h5 [a1] := Keep.ext (Keep.refl h0 [a1]) E5
  have le_5 : h0.size ≤ h5.size := E5.1
  have Sf6 := CHr.safe cr5 (show (a1 : Nat) < h0.size by omega) Sf0
  have CH7 := CHr.trans CH0 cr5
  show ∃ t o, Steps p.tables e below (T5.setTop (mkF m 11 #[.val (.ref a1), .val (.ref ca), .val (.int (0 : Int32)), .val (.int (0 : Int32)), .val .null, .unset] [(.ref a5), (.ref a1)])) t ∧ _
  obtain ⟨T8, X8, e8, st8⟩ := getF X5 hx hZ hown (host := "") (Or.inl (hw _ (List.mem_of_getElem? (i := 30) rfl))) Via.refl e5 Fv5 (g := (mkF m 11 #[.val (.ref a1), .val (.ref ca), .val (.int (0 : Int32)), .val (.int (0 : Int32)), .val .null, .unset] [(.ref a5), (.ref a1)])) rfl rfl (hb hby d4_11)
  refine own_go st8 ?_
  have F9 : Exa Z h5 a1 "java/lang/String" := (Exa.ext E5 P1)
  have F10 : Fld Z h5 a1 "java/lang/String" "value" "[B" .null := (Fld.ext E5 P2)
  obtain ⟨T11, h11, X11, e11, W11, st11⟩ := putF X8 hx hZ hown (host := "") (Or.inl (hw _ (List.mem_of_getElem? (i := 30) rfl))) Via.refl e8 F10 F9 (Or.inr ⟨(hw _ (List.mem_of_getElem? (i := 26) rfl)), rfl, hnm⟩) (hw _ (List.mem_of_getElem? (i := 11) rfl)) (ty := (.array .byte)) (by decide) rfl rfl (g := (mkF m 14 #[.val (.ref a1), .val (.ref ca), .val (.int (0 : Int32)), .val (.int (0 : Int32)), .val .null, .unset] [(.ref b5), (.ref a1)])) rfl rfl (hb hby d4_14)
  refine own_go st11 ?_
  have Sf12 := Safe.wr W11 Sf6 CH7.1 Sf6
  have CH13 := CHr.trans CH7 (CHr.wr W11 Sf6 CH7.1)
  have le_11 : h5.size ≤ h11.size := Nat.le_of_eq W11.size.symm
  have K11 : Keep h0 h11 [a1] := Keep.wr K5 W11 (Or.inl (List.mem_of_getElem? (i := 0) rfl))
  have N11 := Fr.snoc X11 N0 ga
  have Fw11 := Fld.same W11 F10
  refine own_go (fun _ => XS.aloadN X11.here hx rfl (hb hby d4_17) rfl rfl) ?_
  show ∃ t o, Steps p.tables e below (T11.setTop (mkF m 18 #[.val (.ref a1), .val (.ref ca), .val (.int (0 : Int32)), .val (.int (0 : Int32)), .val .null, .unset] [(.ref a1)])) t ∧ _
  obtain ⟨a14, T14, h14, kS14, b14, kb14, X14, e14, E14, hS, hk14, hZ, hown, A14, Fc14, Fv14, Av14, lta14, ltb14, cr14, -, hne14, st14⟩ := ldcCH X11 hx hZ hown (hw _ (List.mem_of_getElem? (i := 24) rfl)) wS e11 hS (by omega) hEL own_mem CH13.1 (vs := []) (z := 0) ⟨by decide, rfl⟩ (by decide) rfl (g := (mkF m 18 #[.val (.ref a1), .val (.ref ca), .val (.int (0 : Int32)), .val (.int (0 : Int32)), .val .null, .unset] [(.ref a1)])) rfl (hb hby d4_18) (n := 0) (by decide) (by decide) (by decide) (by decide)
  refine own_go st14 ?_
  have K14 : Keep h0 h14 [a1] := Keep.ext K11 E14
  have le_14 : h11.size ≤ h14.size := E14.1
  have Sf15 := CHr.safe cr14 (show (a1 : Nat) < h11.size by omega) Sf12
  have CH16 := CHr.trans CH13 cr14
  obtain ⟨T17, X17, e17, st17⟩ := getF X14 hx hZ hown (host := "") (Or.inl (hw _ (List.mem_of_getElem? (i := 31) rfl))) Via.refl e14 Fc14 (g := (mkF m 20 #[.val (.ref a1), .val (.ref ca), .val (.int (0 : Int32)), .val (.int (0 : Int32)), .val .null, .unset] [(.ref a14), (.ref a1)])) rfl rfl (hb hby d4_20)
  refine own_go st17 ?_
  have F18 : Exa Z h14 a1 "java/lang/String" := (Exa.ext E14 (Exa.wr W11 F9))
  have F19 : Fld Z h14 a1 "java/lang/String" "coder" "B" (.int (0 : Int32)) := (Fld.ext E14 (Fld.other W11 (Fld.ext E5 P3) (Or.inr (slot_ne (a0 := a0) (Or.inr (hw _ (List.mem_of_getElem? (i := 27) rfl))) (Or.inr (hw _ (List.mem_of_getElem? (i := 26) rfl))) (by decide) (t := .byte) (t' := (.array .byte)) (by decide) (by decide)))))
  obtain ⟨T20, h20, X20, e20, W20, st20⟩ := putFN X17 hx hZ hown (hw _ (List.mem_of_getElem? (i := 31) rfl)) Via.refl e17 F19 F18 (Or.inr ⟨(hw _ (List.mem_of_getElem? (i := 27) rfl)), rfl, hnm⟩) (hw _ (List.mem_of_getElem? (i := 11) rfl)) (ty := .byte) (v' := (.int (0 : Int32).toInt8.toInt32)) (by decide) rfl (fits_nar_byte _) (g := (mkF m 23 #[.val (.ref a1), .val (.ref ca), .val (.int (0 : Int32)), .val (.int (0 : Int32)), .val .null, .unset] [(.int (0 : Int32)), (.ref a1)])) rfl rfl (hb hby d4_23)
  refine own_go st20 ?_
  have Sf21 := Safe.wr W20 Sf15 CH16.1 Sf15
  have CH22 := CHr.trans CH16 (CHr.wr W20 Sf15 CH16.1)
  have le_20 : h14.size ≤ h20.size := Nat.le_of_eq W20.size.symm
  have K20 : Keep h0 h20 [a1] := Keep.wr K14 W20 (Or.inl (List.mem_of_getElem? (i := 0) rfl))
  have N20 := Fr.snoc X20 N11 ga
  have Fw20 := Fld.same W20 F19
  have Fcz : Fld Z h20 a1 "java/lang/String" "coder" "B" (.int (0 : Int32)) := Fw20
  show ∃ t o, Steps p.tables e below (T20.setTop (mkF m 26 #[.val (.ref a1), .val (.ref ca), .val (.int (0 : Int32)), .val (.int (0 : Int32)), .val .null, .unset] [])) t ∧ _
  have F23 : Exa Z h20 a1 "java/lang/String" := (Exa.wr W20 F18)
  have F24 : Fld Z h20 a1 "java/lang/String" "value" "[B" (.ref b5) := (Fld.other W20 (Fld.ext E14 Fw11) (Or.inr (slot_ne (a0 := a0) (Or.inr (hw _ (List.mem_of_getElem? (i := 26) rfl))) (Or.inr (hw _ (List.mem_of_getElem? (i := 27) rfl))) (by decide) (t := (.array .byte)) (t' := .byte) (by decide) (by decide))))
  have F25 : Arv Z h20 b5 kb5 .byte (0 : Int32) [] (.int (0 : Int32)) := (Arv.other ((Arv.other Av5 W11 (Ne.symm (hne5 _ Sf6).2)).ext E14) W20 (Ne.symm (hne5 _ Sf6).2))
  obtain ⟨fs, hr, hrun, hended, hW⟩ := Jvm.Stand.leaveW X20 hS (by rw [e20]; omega) (v := none) (fun _ => rfl)
  have CHz : CHr Z own_EL s.vm s.heap T20.vm T20.heap := by rw [hh, e20]; exact CHr.trans CH22 (CHv.at X20 hZ hEL CH22.1)
  refine ⟨_, _, ?_, hrun, hended, _, _, rfl, ?_, CHz, ⟨hW.1, hW.2.1, hW.2.2.1, hW.2.2.2.mono (by decide) (by decide)⟩⟩
  · exact X20.returnOut hx Bd.returns (hb hby d4_26) hr
  · show Q_rmS4 Z _ _ h0 n0 _ T20.heap _
    rw [e20]
    exact ⟨b5, kb5, rfl, N20, K20, F23, F24, Fcz, F25⟩
theorem ef_rmS1 (m : MethodId) (x0 : Nat) (x1 : Nat) : entryFrame m #[(.ref x0), (.ref x1)] 2 = mkF m 0 #[.val (.ref x0), .val (.ref x1)] [] := by first | (simp [entryFrame, mkF, argsToLocals, Value.category]; done) | rfl
theorem d3_0 : decode jdk_42_method_3_code 0 = .ok (.aload_n 0, 1) := by decide +kernel
theorem d3_1 : decode jdk_42_method_3_code 1 = .ok (.aload_n 1, 1) := by decide +kernel
theorem d3_2 : decode jdk_42_method_3_code 2 = .ok (.iconst 0, 1) := by decide +kernel
theorem d3_3 : decode jdk_42_method_3_code 3 = .ok (.aload_n 1, 1) := by decide +kernel
theorem d3_4 : decode jdk_42_method_3_code 4 = .ok (.arraylength, 1) := by decide +kernel
theorem d3_5 : decode jdk_42_method_3_code 5 = .ok (.aconst_null, 1) := by decide +kernel
theorem d3_6 : decode jdk_42_method_3_code 6 = .ok (.invokespecial 27, 3) := by decide +kernel
theorem pd__28_5bCIILjava_2flang_2fVoid_3b_29V : parseMethodDescriptor "([CIILjava/lang/Void;)V" = some ⟨[(.array .char), .int, .int, (.object "java/lang/Void")], none⟩ := by decide +kernel
theorem d3_9 : decode jdk_42_method_3_code 9 = .ok (.return_, 1) := by decide +kernel
def Q_rmS1 (Z : State) (a1 : Nat) (ca : Nat) (kc : ClassId) (h0 : Heap) (n0 : Nat) (v : Option Value) (h : Heap) (L : List Loc) : Prop := ∃ (tb : Nat), ∃ (kb : ClassId), v = none ∧ Fr n0 L ∧ Keep h0 h [a1] ∧ Exa Z h a1 "java/lang/String" ∧ Fld Z h a1 "java/lang/String" "value" "[B" (.ref tb) ∧ Fld Z h a1 "java/lang/String" "coder" "B" (.int (0 : Int32)) ∧ Arv Z h tb kb .byte (0 : Int32) [] (.int (0 : Int32))
set_option maxRecDepth 65536 in
set_option maxHeartbeats 40000000 in
theorem rmS1 (l : Launch) (Z : State) (a0 : Array Value) (hw : ∀ d ∈ tables_1, d.before a0 Z = true) (ws : List Jvm.Cond) (a1 : Nat) (ca : Nat) (kc : ClassId) (h0 : Heap) (n0 : Nat) (Z0 : n0 ≤ h0.size) (P1 : Exa Z h0 a1 "java/lang/String") (P2 : Fld Z h0 a1 "java/lang/String" "value" "[B" .null) (P3 : Fld Z h0 a1 "java/lang/String" "coder" "B" (.int (0 : Int32))) (P4 : Arv Z h0 ca kc .char (0 : Int32) [] (.int (0 : Int32))) (OLD : Old Z n0 h0) (ga : n0 ≤ a1) (hEL : EW Z a0 own_EL) :
    MetFree l (⟨"java/lang/String", "<init>", "([C)V"⟩ : MethodName) (head1 (Jvm.Cond.code (⟨"java/lang/String", "<init>", "([C)V"⟩ : MethodName) jdk_42_method_3_code 2 none :: ws) ({ frames := 2, cells := 4, slots := 8, locals := 29 } : Room)) (fun a U => a = #[(.ref a1), (.ref ca)] ∧ Z.Warmed39 U.vm ∧ U.heap = h0 ∧ CHv Z own_EL U.vm h0) (fun _ _ _ _ _ => True) (fun _ U o U' => ∃ v L, o = .returned v ∧ Q_rmS1 Z a1 ca kc h0 n0 v U'.heap L ∧ CHr Z own_EL U.vm U.heap U'.vm U'.heap ∧ ReturnedEndW U o U' L ({ frames := 2, cells := 4, slots := 8, locals := 29 } : Room).cells ({ frames := 2, cells := 4, slots := 8, locals := 29 } : Room).slots) := by
  refine MetFree.of_bodySF (plainFor_of_name pn_java_lang_String) hisR ?_
  intro p e s m args below meth c s₁ Bd hml0 hP hK
  obtain ⟨rfl, hZ, hh, hCH⟩ := hP
  have hx := Bd.exec
  have hby := Bd.bytes
  have hml : c.maxLocals = 2 := hml0
  have hown : s.vm.findClass "java/lang/String" = some m.cls := findClass_of_methodNamed Bd.named
  have hnm := (name_of_methodNamed Bd.named Bd.method).1
  have X0 : Stand p l e ({ frames := 2, cells := 4, slots := 8, locals := 29 } : Room) (s.setVm s.vm) m #[(.ref a1), (.ref ca)] below meth c s₁ [] 0 0 := Stand.of_body Bd
  have e0 : s₁.heap = h0 := by rw [← hh, Bd.state]; rfl
  have N0 := Fr.nil n0
  have pre0 : ∀ t, Steps p.tables e below (s₁.setTop (mkF m 0 #[.val (.ref a1), .val (.ref ca)] [])) t → Steps p.tables e below (s₁.setTop (entryFrame m #[(.ref a1), (.ref ca)] 2)) t := fun t k => castTop (ef_rmS1 m a1 ca) k
  have hZ : Z.Warmed39 (s.setVm s.vm).vm := hZ
  have hown : (s.setVm s.vm).vm.findClass "java/lang/String" = some m.cls := hown
  have hS : s.Since s.vm 0 := (State.WarmedH.refl s).since 0
  have CH0 : CHr Z own_EL s.vm h0 s.vm h0 := CHr.refl hCH
  have oz := OLD.1
  have lt_a1 : a1 < h0.size := P1.lt
  have lt_ca : ca < h0.size := P4.lt
  refine own_go (B := s₁.setTop (mkF m 0 #[.val (.ref a1), .val (.ref ca)] [])) pre0 ?_
  show ∃ t o, Steps p.tables e below (s₁.setTop (mkF m 0 #[.val (.ref a1), .val (.ref ca)] [])) t ∧ _
  refine own_go (fun _ => XS.aloadN X0.here hx rfl (hb hby d3_0) rfl rfl) ?_
  refine own_go (fun _ => XS.aloadN X0.here hx rfl (hb hby d3_1) rfl rfl) ?_
  refine own_go (fun _ => XS.iconst X0.here hx rfl (hb hby d3_2)) ?_
  show ∃ t o, Steps p.tables e below (s₁.setTop (mkF m 3 #[.val (.ref a1), .val (.ref ca)] [(.int (0 : Int32)), (.ref ca), (.ref a1)])) t ∧ _
  refine own_go (fun _ => XS.aloadN X0.here hx rfl (hb hby d3_3) rfl rfl) ?_
  obtain ⟨cl5, Ar5, q5, S5, N5, H5, G5⟩ := id P4
  have ln5 : cl5.slots.size.toInt32 = (0 : Int32) := len_of S5 N5
  have al5 := X0.arraylength hx (by rw [e0]; exact Ar5.1) (State.isArrayOf_alike hZ.alike Ar5.2.1) (g := (mkF m 4 #[.val (.ref a1), .val (.ref ca)] [(.ref ca), (.int (0 : Int32)), (.ref ca), (.ref a1)])) rfl rfl (hb hby d3_4)
  rw [ln5] at al5
  refine own_go al5 ?_
  refine own_go (fun _ => XS.aconstNull X0.here hx rfl (hb hby d3_5)) ?_
  show ∃ t o, Steps p.tables e below (s₁.setTop (mkF m 6 #[.val (.ref a1), .val (.ref ca)] [.null, (.int (0 : Int32)), (.int (0 : Int32)), (.ref ca), (.ref a1)])) t ∧ _
  obtain ⟨_, _, ⟨T6, L6, k6, n6⟩, -, X6, hSn6, hgn6, ⟨Lc6, hQ6, l6, y6, z6, cr6⟩, st6⟩ := X0.specialBackS hx (y := (⟨"java/lang/String", "<init>", "([CIILjava/lang/Void;)V"⟩ : MethodName)) rfl hown (mvT hZ (hw _ (List.mem_of_getElem? (i := 17) rfl))) (mvT hZ (hw _ (List.mem_of_getElem? (i := 18) rfl))) (mvT hZ (hw _ (List.mem_of_getElem? (i := 20) rfl))) (by decide) (backOfSH (W := 0) (rmS4 l Z a0 hw [] a1 ca h0 n0 Z0 P1 P2 P3 OLD ga hEL) hZ (hw _ (List.mem_of_getElem? (i := 20) rfl)) (hw _ (List.mem_of_getElem? (i := 12) rfl)) (by decide) (by decide) hEL CH0.1) (g := (mkF m 6 #[.val (.ref a1), .val (.ref ca)] [.null, (.int (0 : Int32)), (.int (0 : Int32)), (.ref ca), (.ref a1)])) rfl (by rw [hml]; rfl) (Steps.refl _) (a := a1) (argsL := [(.ref ca), (.int (0 : Int32)), (.int (0 : Int32)), .null]) (rest := []) (lenOf pd__28_5bCIILjava_2flang_2fVoid_3b_29V rfl) rfl (by show 2 * 0 + _ ≤ _; exact Nat.le_of_eq rfl) (hb hby d3_6) (fun _ _ => ⟨rfl, e0, (by decide : 0 + 4 ≤ _), (by decide : 0 + 8 ≤ _)⟩)
  dsimp only [Pt.U, Pt.locs, Pt.cells, Pt.slots] at X6 l6 y6 z6 st6 hQ6 hSn6 hgn6 cr6
  subst l6 y6 z6
  have hZ : Z.Warmed39 (s.setVm T6.vm).vm := State.Warmed39.trans (t := s.setVm s.vm) hZ hSn6.1
  have hown : (s.setVm T6.vm).vm.findClass "java/lang/String" = some m.cls := by rw [show (s.setVm T6.vm).vm = T6.vm from rfl, hSn6.1.alike.findClass]; exact hown
  have hS : s.Since T6.vm T6.heap.size := foldS (T := s₁) hS (Nat.zero_le _) hSn6 hgn6
  have X6 : Stand p l e _ (s.setVm T6.vm) m _ below meth c T6 _ _ _ := X6
  obtain ⟨tb_6, kb_6, rfl, Nq6, Kp6, G6_0, G6_1, G6_2, G6_3⟩ := hQ6
  have N6 := Fr.app N0 Nq6
  refine own_goT st6 ?_
  have le_6 : h0.size ≤ T6.heap.size := Kp6.1
  have K6 : Keep h0 T6.heap [a1] := Keep.trans (Keep.refl h0 [a1]) Kp6 (allS (Or.inl (List.mem_of_getElem? (i := 0) rfl)) all0)
  have CH7 := CHr.trans CH0 cr6
  have lt_tb_6 : tb_6 < T6.heap.size := (G6_3).lt
  show ∃ t o, Steps p.tables e below (T6.setTop (mkF m 9 #[.val (.ref a1), .val (.ref ca)] [])) t ∧ _
  obtain ⟨fs, hr, hrun, hended, hW⟩ := Jvm.Stand.leaveW X6 hS (by omega) (v := none) (fun _ => rfl)
  have CHz : CHr Z own_EL s.vm s.heap T6.vm T6.heap := by rw [hh]; exact CHr.trans CH7 (CHv.at X6 hZ hEL CH7.1)
  refine ⟨_, _, ?_, hrun, hended, _, _, rfl, ?_, CHz, ⟨hW.1, hW.2.1, hW.2.2.1, hW.2.2.2.mono (by decide) (by decide)⟩⟩
  · exact X6.returnOut hx Bd.returns (hb hby d3_9) hr
  · show Q_rmS1 Z _ _ _ h0 n0 _ T6.heap _
    exact ⟨tb_6, kb_6, rfl, N6, K6, G6_0, G6_1, G6_2, G6_3⟩
theorem ef_rmMk (m : MethodId) (x0 : Int32) : entryFrame m #[(.int x0)] 4 = mkF m 0 #[.val (.int x0), .unset, .unset, .unset] [] := by first | (simp [entryFrame, mkF, argsToLocals, Value.category]; done) | rfl
theorem d1_0 : decode method_4_code 0 = .ok (.iload_n 0, 1) := by decide +kernel
theorem d1_1 : decode method_4_code 1 = .ok (.invokestatic 26, 3) := by decide +kernel
theorem pd__28I_29I : parseMethodDescriptor "(I)I" = some ⟨[.int], some .int⟩ := by decide +kernel
theorem d1_4 : decode method_4_code 4 = .ok (.istore_n 1, 1) := by decide +kernel
theorem d1_5 : decode method_4_code 5 = .ok (.iload_n 0, 1) := by decide +kernel
theorem d1_6 : decode method_4_code 6 = .ok (.sipush 255, 3) := by decide +kernel
theorem d1_9 : decode method_4_code 9 = .ok (.iand, 1) := by decide +kernel
theorem d1_10 : decode method_4_code 10 = .ok (.i2c, 1) := by decide +kernel
theorem d1_11 : decode method_4_code 11 = .ok (.istore_n 2, 1) := by decide +kernel
theorem d1_12 : decode method_4_code 12 = .ok (.iload_n 0, 1) := by decide +kernel
theorem d1_13 : decode method_4_code 13 = .ok (.bipush 8, 2) := by decide +kernel
theorem d1_15 : decode method_4_code 15 = .ok (.iushr, 1) := by decide +kernel
theorem d1_16 : decode method_4_code 16 = .ok (.sipush 255, 3) := by decide +kernel
theorem d1_19 : decode method_4_code 19 = .ok (.iand, 1) := by decide +kernel
theorem d1_20 : decode method_4_code 20 = .ok (.i2c, 1) := by decide +kernel
theorem d1_21 : decode method_4_code 21 = .ok (.istore_n 3, 1) := by decide +kernel
theorem d1_22 : decode method_4_code 22 = .ok (.iload_n 1, 1) := by decide +kernel
theorem d1_23 : decode method_4_code 23 = .ok (.ifCond .ne 14, 3) := by decide +kernel
theorem d1_26 : decode method_4_code 26 = .ok (.new 30, 3) := by decide +kernel
theorem d1_29 : decode method_4_code 29 = .ok (.dup, 1) := by decide +kernel
theorem d1_30 : decode method_4_code 30 = .ok (.iconst 0, 1) := by decide +kernel
theorem d1_31 : decode method_4_code 31 = .ok (.newarray .char, 2) := by decide +kernel
theorem d1_33 : decode method_4_code 33 = .ok (.invokespecial 32, 3) := by decide +kernel
theorem pd__28_5bC_29V : parseMethodDescriptor "([C)V" = some ⟨[(.array .char)], none⟩ := by decide +kernel
theorem d1_36 : decode method_4_code 36 = .ok (.areturn, 1) := by decide +kernel
theorem d1_37 : decode method_4_code 37 = .ok (.iload_n 1, 1) := by decide +kernel
theorem d1_38 : decode method_4_code 38 = .ok (.iconst 1, 1) := by decide +kernel
theorem d1_39 : decode method_4_code 39 = .ok (.if_icmp .ne 18, 3) := by decide +kernel
theorem d1_42 : decode method_4_code 42 = .ok (.new 30, 3) := by decide +kernel
theorem d1_45 : decode method_4_code 45 = .ok (.dup, 1) := by decide +kernel
theorem d1_46 : decode method_4_code 46 = .ok (.iconst 1, 1) := by decide +kernel
theorem d1_47 : decode method_4_code 47 = .ok (.newarray .char, 2) := by decide +kernel
theorem d1_49 : decode method_4_code 49 = .ok (.dup, 1) := by decide +kernel
theorem d1_50 : decode method_4_code 50 = .ok (.iconst 0, 1) := by decide +kernel
theorem d1_51 : decode method_4_code 51 = .ok (.iload_n 2, 1) := by decide +kernel
theorem d1_52 : decode method_4_code 52 = .ok (.castore, 1) := by decide +kernel
theorem d1_53 : decode method_4_code 53 = .ok (.invokespecial 32, 3) := by decide +kernel
theorem d1_56 : decode method_4_code 56 = .ok (.areturn, 1) := by decide +kernel
theorem d1_57 : decode method_4_code 57 = .ok (.new 30, 3) := by decide +kernel
theorem d1_60 : decode method_4_code 60 = .ok (.dup, 1) := by decide +kernel
theorem d1_61 : decode method_4_code 61 = .ok (.iconst 2, 1) := by decide +kernel
theorem d1_62 : decode method_4_code 62 = .ok (.newarray .char, 2) := by decide +kernel
theorem d1_64 : decode method_4_code 64 = .ok (.dup, 1) := by decide +kernel
theorem d1_65 : decode method_4_code 65 = .ok (.iconst 0, 1) := by decide +kernel
theorem d1_66 : decode method_4_code 66 = .ok (.iload_n 2, 1) := by decide +kernel
theorem d1_67 : decode method_4_code 67 = .ok (.castore, 1) := by decide +kernel
theorem d1_68 : decode method_4_code 68 = .ok (.dup, 1) := by decide +kernel
theorem d1_69 : decode method_4_code 69 = .ok (.iconst 1, 1) := by decide +kernel
theorem d1_70 : decode method_4_code 70 = .ok (.iload_n 3, 1) := by decide +kernel
theorem d1_71 : decode method_4_code 71 = .ok (.castore, 1) := by decide +kernel
theorem d1_72 : decode method_4_code 72 = .ok (.invokespecial 32, 3) := by decide +kernel
theorem d1_75 : decode method_4_code 75 = .ok (.areturn, 1) := by decide +kernel
def Q_rmMk (Z : State) (s1 : Int32) (zc : Int32) (h0 : Heap) (n0 : Nat) (v : Option Value) (h : Heap) (L : List Loc) : Prop := ∃ (b : Nat), v = some (.ref b) ∧ Fr n0 L ∧ Keep h0 h [] ∧ Exa Z h b "java/lang/String" ∧ own_Str Z h b (own_cs s1) ∧ (h0.size ≤ b)
set_option maxRecDepth 65536 in
set_option maxHeartbeats 40000000 in
theorem rmMk (l : Launch) (Z : State) (a0 : Array Value) (hw : ∀ d ∈ tables_1, d.before a0 Z = true) (ws : List Jvm.Cond) (s1 : Int32) (zc : Int32) (h0 : Heap) (n0 : Nat) (Z0 : n0 ≤ h0.size) (OLD : Old Z n0 h0) (P1 : Sta Z Z.heap "java/lang/String" "COMPACT_STRINGS" "Z" (.int zc)) (hzc : ¬ (zc = (0 : Int32))) (hEL : EW Z a0 own_EL) :
    MetFree l (⟨"com/example/ipomoea/ipomoea/store/JobKeyEqualsPinLaw", "mk", "(I)Ljava/lang/String;"⟩ : MethodName) (head1 (Jvm.Cond.code (⟨"com/example/ipomoea/ipomoea/store/JobKeyEqualsPinLaw", "mk", "(I)Ljava/lang/String;"⟩ : MethodName) method_4_code 4 (some (.object "java/lang/String")) :: ws) ({ frames := 4, cells := 6, slots := 12, locals := 66 } : Room)) (fun a U => a = #[(.int s1)] ∧ Z.Warmed39 U.vm ∧ U.heap = h0 ∧ CHv Z own_EL U.vm h0) (fun _ _ _ _ _ => True) (fun _ U o U' => ∃ v L, o = .returned v ∧ Q_rmMk Z s1 zc h0 n0 v U'.heap L ∧ CHr Z own_EL U.vm U.heap U'.vm U'.heap ∧ ReturnedEndW U o U' L ({ frames := 4, cells := 6, slots := 12, locals := 66 } : Room).cells ({ frames := 4, cells := 6, slots := 12, locals := 66 } : Room).slots) := by
  refine MetFree.of_bodySF (plainFor_of_name pn_com_example_ipomoea_ipomoea_store_JobKeyEqualsPinLaw) hisR ?_
  intro p e s m args below meth c s₁ Bd hml0 hP hK
  obtain ⟨rfl, hZ, hh, hCH⟩ := hP
  have hx := Bd.exec
  have hby := Bd.bytes
  have hml : c.maxLocals = 4 := hml0
  have hown : s.vm.findClass "com/example/ipomoea/ipomoea/store/JobKeyEqualsPinLaw" = some m.cls := findClass_of_methodNamed Bd.named
  have hnm := (name_of_methodNamed Bd.named Bd.method).1
  have X0 : Stand p l e ({ frames := 4, cells := 6, slots := 12, locals := 66 } : Room) (s.setVm s.vm) m #[(.int s1)] below meth c s₁ [] 0 0 := Stand.of_body Bd
  have e0 : s₁.heap = h0 := by rw [← hh, Bd.state]; rfl
  have N0 := Fr.nil n0
  have pre0 : ∀ t, Steps p.tables e below (s₁.setTop (mkF m 0 #[.val (.int s1), .unset, .unset, .unset] [])) t → Steps p.tables e below (s₁.setTop (entryFrame m #[(.int s1)] 4)) t := fun t k => castTop (ef_rmMk m s1) k
  have hZ : Z.Warmed39 (s.setVm s.vm).vm := hZ
  have hown : (s.setVm s.vm).vm.findClass "com/example/ipomoea/ipomoea/store/JobKeyEqualsPinLaw" = some m.cls := hown
  have hS : s.Since s.vm 0 := (State.WarmedH.refl s).since 0
  have CH0 : CHr Z own_EL s.vm h0 s.vm h0 := CHr.refl hCH
  have oz := OLD.1
  refine own_go (B := s₁.setTop (mkF m 0 #[.val (.int s1), .unset, .unset, .unset] [])) pre0 ?_
  show ∃ t o, Steps p.tables e below (s₁.setTop (mkF m 0 #[.val (.int s1), .unset, .unset, .unset] [])) t ∧ _
  refine own_go (fun _ => XS.iloadN X0.here hx rfl (hb hby d1_0) rfl) ?_
  show ∃ t o, Steps p.tables e below (s₁.setTop (mkF m 1 #[.val (.int s1), .unset, .unset, .unset] [(.int s1)])) t ∧ _
  obtain ⟨_, _, ⟨T2, L2, k2, n2⟩, -, X2, ⟨Lc2, hQ2, l2, y2, z2⟩, st2⟩ := Jvm.LawKit.callS X0 hx (y := (⟨"com/example/ipomoea/ipomoea/store/JobKeyEqualsPinLaw", "len", "(I)I"⟩ : MethodName)) hown (mvT hZ (hw _ (List.mem_of_getElem? (i := 7) rfl))) (mvT hZ (hw _ (List.mem_of_getElem? (i := 8) rfl))) (mvT hZ (hw _ (List.mem_of_getElem? (i := 5) rfl))) (mvT hZ (hw _ (List.mem_of_getElem? (i := 9) rfl))) (by decide) (backOf (W := 0) (rmLen l Z a0 hw [] s1 h0 n0 Z0 OLD) hZ (hw _ (List.mem_of_getElem? (i := 9) rfl)) (hw _ (List.mem_of_getElem? (i := 5) rfl)) (by decide) (by decide)) (g := (mkF m 1 #[.val (.int s1), .unset, .unset, .unset] [(.int s1)])) rfl (by rw [hml]; rfl) (argsL := [(.int s1)]) (rest := []) (lenOf pd__28I_29I rfl) rfl (by show 2 * 0 + _ ≤ _; exact Nat.le_of_eq rfl) (hb hby d1_1) (fun _ _ => ⟨rfl, e0, (by decide : 0 + 0 ≤ _), (by decide : 0 + 0 ≤ _)⟩)
  dsimp only [Pt.U, Pt.locs, Pt.cells, Pt.slots] at X2 l2 y2 z2 st2 hQ2
  subst l2 y2 z2
  obtain ⟨r1_2, rfl, Nq2, e2, H2_0⟩ := hQ2
  have N2 := Fr.app N0 Nq2
  refine own_go st2 ?_
  refine own_go (fun _ => XS.istoreN X2.here hx rfl (hb hby d1_4) rfl (l' := #[.val (.int s1), .val (.int r1_2), .unset, .unset]) rfl) ?_
  refine own_go (fun _ => XS.iloadN X2.here hx rfl (hb hby d1_5) rfl) ?_
  show ∃ t o, Steps p.tables e below (T2.setTop (mkF m 6 #[.val (.int s1), .val (.int r1_2), .unset, .unset] [(.int s1)])) t ∧ _
  refine own_go (fun _ => XS.sipush X2.here hx rfl (hb hby d1_6)) ?_
  refine own_go (fun _ => XS.iand X2.here hx rfl (hb hby d1_9) rfl) ?_
  refine own_go (fun _ => XS.i2c X2.here hx rfl (hb hby d1_10) rfl) ?_
  show ∃ t o, Steps p.tables e below (T2.setTop (mkF m 11 #[.val (.int s1), .val (.int r1_2), .unset, .unset] [(.int ((s1 &&& (255 : Int32)).toUInt32.toUInt16.toUInt32.toInt32))])) t ∧ _
  refine own_go (fun _ => XS.istoreN X2.here hx rfl (hb hby d1_11) rfl (l' := #[.val (.int s1), .val (.int r1_2), .val (.int ((s1 &&& (255 : Int32)).toUInt32.toUInt16.toUInt32.toInt32)), .unset]) rfl) ?_
  refine own_go (fun _ => XS.iloadN X2.here hx rfl (hb hby d1_12) rfl) ?_
  refine own_go (fun _ => XS.bipush X2.here hx rfl (hb hby d1_13)) ?_
  show ∃ t o, Steps p.tables e below (T2.setTop (mkF m 15 #[.val (.int s1), .val (.int r1_2), .val (.int ((s1 &&& (255 : Int32)).toUInt32.toUInt16.toUInt32.toInt32)), .unset] [(.int (8 : Int32)), (.int s1)])) t ∧ _
  refine own_go (fun _ => XS.iushr X2.here hx rfl (hb hby d1_15) rfl) ?_
  refine own_go (fun _ => XS.sipush X2.here hx rfl (hb hby d1_16)) ?_
  refine own_go (fun _ => XS.iand X2.here hx rfl (hb hby d1_19) rfl) ?_
  show ∃ t o, Steps p.tables e below (T2.setTop (mkF m 20 #[.val (.int s1), .val (.int r1_2), .val (.int ((s1 &&& (255 : Int32)).toUInt32.toUInt16.toUInt32.toInt32)), .unset] [(.int (((s1.toUInt32 >>> ((8 : Int32) &&& 31).toUInt32).toInt32) &&& (255 : Int32)))])) t ∧ _
  refine own_go (fun _ => XS.i2c X2.here hx rfl (hb hby d1_20) rfl) ?_
  refine own_go (fun _ => XS.istoreN X2.here hx rfl (hb hby d1_21) rfl (l' := #[.val (.int s1), .val (.int r1_2), .val (.int ((s1 &&& (255 : Int32)).toUInt32.toUInt16.toUInt32.toInt32)), .val (.int ((((s1.toUInt32 >>> ((8 : Int32) &&& 31).toUInt32).toInt32) &&& (255 : Int32)).toUInt32.toUInt16.toUInt32.toInt32))]) rfl) ?_
  refine own_go (fun _ => XS.iloadN X2.here hx rfl (hb hby d1_22) rfl) ?_
  show ∃ t o, Steps p.tables e below (T2.setTop (mkF m 23 #[.val (.int s1), .val (.int r1_2), .val (.int ((s1 &&& (255 : Int32)).toUInt32.toUInt16.toUInt32.toInt32)), .val (.int ((((s1.toUInt32 >>> ((8 : Int32) &&& 31).toUInt32).toInt32) &&& (255 : Int32)).toUInt32.toUInt16.toUInt32.toInt32))] [(.int r1_2)])) t ∧ _
  by_cases hc3 : r1_2 = (0 : Int32)
  · refine own_go (fun _ => XS.ifNo X2.here hx rfl (hb hby d1_23) rfl ((if0 _ _).trans (teq hc3).2)) ?_
    show ∃ t o, Steps p.tables e below (T2.setTop (mkF m 26 #[.val (.int s1), .val (.int r1_2), .val (.int ((s1 &&& (255 : Int32)).toUInt32.toUInt16.toUInt32.toInt32)), .val (.int ((((s1.toUInt32 >>> ((8 : Int32) &&& 31).toUInt32).toInt32) &&& (255 : Int32)).toUInt32.toUInt16.toUInt32.toInt32))] [])) t ∧ _
    obtain ⟨T4, h4, X4, e4, E4, A4, D4, -, st4⟩ := newO X2 hx hZ hown (hw _ (List.mem_of_getElem? (i := 10) rfl)) (hw _ (List.mem_of_getElem? (i := 11) rfl)) (hw _ (List.mem_of_getElem? (i := 12) rfl)) e2 (g := (mkF m 26 #[.val (.int s1), .val (.int r1_2), .val (.int ((s1 &&& (255 : Int32)).toUInt32.toUInt16.toUInt32.toInt32)), .val (.int ((((s1.toUInt32 >>> ((8 : Int32) &&& 31).toUInt32).toInt32) &&& (255 : Int32)).toUInt32.toUInt16.toUInt32.toInt32))] [])) rfl (hb hby d1_26) (by decide) (by decide)
    obtain ⟨b4, g4⟩ : ∃ z, z = h0.size := ⟨_, rfl⟩
    rw [← g4] at A4 D4 st4
    refine own_go st4 ?_
    have le_4 : h0.size ≤ h4.size := E4.1
    have lt_b4 : b4 < h4.size := A4.lt
    have F_value_b4 : Fld Z h4 b4 "java/lang/String" "value" "[B" .null := D4 (Or.inr (hw _ (List.mem_of_getElem? (i := 26) rfl))) (ty := (.array .byte)) (by decide)
    have F_coder_b4 : Fld Z h4 b4 "java/lang/String" "coder" "B" (.int (0 : Int32)) := D4 (Or.inr (hw _ (List.mem_of_getElem? (i := 27) rfl))) (ty := .byte) (by decide)
    have K4 : Keep h0 h4 [] := Keep.ext (Keep.refl h0 []) E4
    have CH5 := CHr.trans CH0 (CHr.ext E4 CH0.1)
    refine own_go (fun _ => XS.dup X4.here hx rfl (hb hby d1_29) rfl rfl) ?_
    refine own_go (fun _ => XS.iconst X4.here hx rfl (hb hby d1_30)) ?_
    show ∃ t o, Steps p.tables e below (T4.setTop (mkF m 31 #[.val (.int s1), .val (.int r1_2), .val (.int ((s1 &&& (255 : Int32)).toUInt32.toUInt16.toUInt32.toInt32)), .val (.int ((((s1.toUInt32 >>> ((8 : Int32) &&& 31).toUInt32).toInt32) &&& (255 : Int32)).toUInt32.toUInt16.toUInt32.toInt32))] [(.int (0 : Int32)), (.ref b4), (.ref b4)])) t ∧ _
    obtain ⟨T6, h6, k6, X6, e6, E6, A6, st6⟩ := newP X4 hx hZ (hw _ (List.mem_of_getElem? (i := 13) rfl)) e4 (g := (mkF m 31 #[.val (.int s1), .val (.int r1_2), .val (.int ((s1 &&& (255 : Int32)).toUInt32.toUInt16.toUInt32.toInt32)), .val (.int ((((s1.toUInt32 >>> ((8 : Int32) &&& 31).toUInt32).toInt32) &&& (255 : Int32)).toUInt32.toUInt16.toUInt32.toInt32))] [(.int (0 : Int32)), (.ref b4), (.ref b4)])) rfl (hb hby d1_31) rfl (by decide) (cap := 0) (by decide) (by decide) (by decide) (by decide)
    obtain ⟨b6, g6⟩ : ∃ z, z = h4.size := ⟨_, rfl⟩
    rw [← g6] at A6 st6
    refine own_go st6 ?_
    have le_6 : h4.size ≤ h6.size := E6.1
    have lt_b6 : b6 < h6.size := A6.lt
    have V_b6 : Arv Z h6 b6 k6 .char (0 : Int32) [] (.int (0 : Int32)) := (Arv.new A6 (by decide)).pad (pad_rep [] (.int (0 : Int32)) 0)
    have K6 : Keep h0 h6 [] := Keep.ext K4 E6
    have CH7 := CHr.trans CH5 (CHr.ext E6 CH5.1)
    show ∃ t o, Steps p.tables e below (T6.setTop (mkF m 33 #[.val (.int s1), .val (.int r1_2), .val (.int ((s1 &&& (255 : Int32)).toUInt32.toUInt16.toUInt32.toInt32)), .val (.int ((((s1.toUInt32 >>> ((8 : Int32) &&& 31).toUInt32).toInt32) &&& (255 : Int32)).toUInt32.toUInt16.toUInt32.toInt32))] [(.ref b6), (.ref b4), (.ref b4)])) t ∧ _
    have F8 : Exa Z h6 b4 "java/lang/String" := (Exa.ext E6 A4)
    have F9 : Fld Z h6 b4 "java/lang/String" "value" "[B" .null := (Fld.ext E6 F_value_b4)
    have F10 : Fld Z h6 b4 "java/lang/String" "coder" "B" (.int (0 : Int32)) := (Fld.ext E6 F_coder_b4)
    have F11 : Old Z n0 h6 := ((OLD.ext E4).ext E6)
    have ge12 : n0 ≤ b4 := by omega
    have zl13 : n0 ≤ h6.size := by omega
    obtain ⟨_, _, ⟨T14, L14, k14, n14⟩, -, X14, hSn14, hgn14, ⟨Lc14, hQ14, l14, y14, z14, cr14⟩, st14⟩ := X6.specialBackS hx (y := (⟨"java/lang/String", "<init>", "([C)V"⟩ : MethodName)) rfl hown (mvT hZ (hw _ (List.mem_of_getElem? (i := 14) rfl))) (mvT hZ (hw _ (List.mem_of_getElem? (i := 15) rfl))) (mvT hZ (hw _ (List.mem_of_getElem? (i := 16) rfl))) (by decide) (backOfSH (W := 1) (rmS1 l Z a0 hw [] b4 b6 k6 h6 n0 zl13 F8 F9 F10 V_b6 F11 ge12 hEL) hZ (hw _ (List.mem_of_getElem? (i := 16) rfl)) (hw _ (List.mem_of_getElem? (i := 12) rfl)) (by decide) (by decide) hEL CH7.1) (g := (mkF m 33 #[.val (.int s1), .val (.int r1_2), .val (.int ((s1 &&& (255 : Int32)).toUInt32.toUInt16.toUInt32.toInt32)), .val (.int ((((s1.toUInt32 >>> ((8 : Int32) &&& 31).toUInt32).toInt32) &&& (255 : Int32)).toUInt32.toUInt16.toUInt32.toInt32))] [(.ref b6), (.ref b4), (.ref b4)])) rfl (by rw [hml]; rfl) (Steps.refl _) (a := b4) (argsL := [(.ref b6)]) (rest := [(.ref b4)]) (lenOf pd__28_5bC_29V rfl) rfl (by show 2 * 0 + _ ≤ _; exact Nat.le_of_eq rfl) (hb hby d1_33) (fun _ _ => ⟨rfl, e6, (by decide : 2 + 4 ≤ _), (by decide : 4 + 8 ≤ _)⟩)
    dsimp only [Pt.U, Pt.locs, Pt.cells, Pt.slots] at X14 l14 y14 z14 st14 hQ14 hSn14 hgn14 cr14
    subst l14 y14 z14
    have hZ : Z.Warmed39 (s.setVm T14.vm).vm := State.Warmed39.trans (t := s.setVm s.vm) hZ hSn14.1
    have hown : (s.setVm T14.vm).vm.findClass "com/example/ipomoea/ipomoea/store/JobKeyEqualsPinLaw" = some m.cls := by rw [show (s.setVm T14.vm).vm = T14.vm from rfl, hSn14.1.alike.findClass]; exact hown
    have hS : s.Since T14.vm T14.heap.size := foldS (T := T6) hS (Nat.zero_le _) hSn14 hgn14
    have X14 : Stand p l e _ (s.setVm T14.vm) m _ below meth c T14 _ _ _ := X14
    obtain ⟨tb_14, kb_14, rfl, Nq14, Kp14, G14_0, G14_1, G14_2, G14_3⟩ := hQ14
    have N14 := Fr.app N2 Nq14
    refine own_goT st14 ?_
    have le_14 : h6.size ≤ T14.heap.size := Kp14.1
    have sz15 : h0.size ≤ b4 := by omega
    have K14 : Keep h0 T14.heap [] := Keep.trans K6 Kp14 (allS (Or.inr sz15) all0)
    have CH16 := CHr.trans CH7 cr14
    have lt_tb_14 : tb_14 < T14.heap.size := (G14_3).lt
    have sr17 : own_Str Z T14.heap b4 (own_cs s1) := by rw [(own_cs0 (H2_0 ▸ hc3))]; exact ⟨tb_14, _, _, _, G14_0, G14_1, G14_2, G14_3, Or.inl ⟨rfl, rfl, rfl, fun c hc => ((by rw [← (own_cs0 (H2_0 ▸ hc3))] at hc; exact own_csr s1 c hc) : ¬ c < 0 ∧ ¬ (255 : Int32) < c).2⟩⟩
    show ∃ t o, Steps p.tables e below (T14.setTop (mkF m 36 #[.val (.int s1), .val (.int r1_2), .val (.int ((s1 &&& (255 : Int32)).toUInt32.toUInt16.toUInt32.toInt32)), .val (.int ((((s1.toUInt32 >>> ((8 : Int32) &&& 31).toUInt32).toInt32) &&& (255 : Int32)).toUInt32.toUInt16.toUInt32.toInt32))] [(.ref b4)])) t ∧ _
    obtain ⟨fs, hr, hrun, hended, hW⟩ := Jvm.Stand.leaveW X14 hS (by omega) (v := some (.ref b4)) (fun h => by rw [Bd.returns] at h; cases h)
    have CHz : CHr Z own_EL s.vm s.heap T14.vm T14.heap := by rw [hh]; exact CHr.trans CH16 (CHv.at X14 hZ hEL CH16.1)
    refine ⟨_, _, ?_, hrun, hended, _, _, rfl, ?_, CHz, ⟨hW.1, hW.2.1, hW.2.2.1, hW.2.2.2.mono (by decide) (by decide)⟩⟩
    · jvm_step X14.here [X14.here.top, hx, (hb hby d1_36), X14.method', Bd.returns, Value.isRef, FieldType.isReference]
      first | (intro acts; rw [hr _ acts rfl rfl rfl]) | rw [hr _ _ rfl rfl rfl]
      exact Steps.refl _
    · show Q_rmMk Z _ _ h0 n0 _ T14.heap _
      exact ⟨b4, rfl, N14, K14, G14_0, sr17, (by omega)⟩
  · refine own_go (fun _ => XS.ifYes X2.here hx rfl (pc0 := 23) (pc' := 37) rfl (hb hby d1_23) rfl ((if0 _ _).trans (feq hc3).2) (by decide) (by decide)) ?_
    refine own_go (fun _ => XS.iloadN X2.here hx rfl (hb hby d1_37) rfl) ?_
    refine own_go (fun _ => XS.iconst X2.here hx rfl (hb hby d1_38)) ?_
    show ∃ t o, Steps p.tables e below (T2.setTop (mkF m 39 #[.val (.int s1), .val (.int r1_2), .val (.int ((s1 &&& (255 : Int32)).toUInt32.toUInt16.toUInt32.toInt32)), .val (.int ((((s1.toUInt32 >>> ((8 : Int32) &&& 31).toUInt32).toInt32) &&& (255 : Int32)).toUInt32.toUInt16.toUInt32.toInt32))] [(.int (1 : Int32)), (.int r1_2)])) t ∧ _
    by_cases hc18 : r1_2 = (1 : Int32)
    · refine own_go (fun _ => XS.icmpNo X2.here hx rfl (hb hby d1_39) rfl (teq hc18).2) ?_
      show ∃ t o, Steps p.tables e below (T2.setTop (mkF m 42 #[.val (.int s1), .val (.int r1_2), .val (.int ((s1 &&& (255 : Int32)).toUInt32.toUInt16.toUInt32.toInt32)), .val (.int ((((s1.toUInt32 >>> ((8 : Int32) &&& 31).toUInt32).toInt32) &&& (255 : Int32)).toUInt32.toUInt16.toUInt32.toInt32))] [])) t ∧ _
      obtain ⟨T19, h19, X19, e19, E19, A19, D19, -, st19⟩ := newO X2 hx hZ hown (hw _ (List.mem_of_getElem? (i := 10) rfl)) (hw _ (List.mem_of_getElem? (i := 11) rfl)) (hw _ (List.mem_of_getElem? (i := 12) rfl)) e2 (g := (mkF m 42 #[.val (.int s1), .val (.int r1_2), .val (.int ((s1 &&& (255 : Int32)).toUInt32.toUInt16.toUInt32.toInt32)), .val (.int ((((s1.toUInt32 >>> ((8 : Int32) &&& 31).toUInt32).toInt32) &&& (255 : Int32)).toUInt32.toUInt16.toUInt32.toInt32))] [])) rfl (hb hby d1_42) (by decide) (by decide)
      obtain ⟨b19, g19⟩ : ∃ z, z = h0.size := ⟨_, rfl⟩
      rw [← g19] at A19 D19 st19
      refine own_go st19 ?_
      have le_19 : h0.size ≤ h19.size := E19.1
      have lt_b19 : b19 < h19.size := A19.lt
      have F_value_b19 : Fld Z h19 b19 "java/lang/String" "value" "[B" .null := D19 (Or.inr (hw _ (List.mem_of_getElem? (i := 26) rfl))) (ty := (.array .byte)) (by decide)
      have F_coder_b19 : Fld Z h19 b19 "java/lang/String" "coder" "B" (.int (0 : Int32)) := D19 (Or.inr (hw _ (List.mem_of_getElem? (i := 27) rfl))) (ty := .byte) (by decide)
      have K19 : Keep h0 h19 [] := Keep.ext (Keep.refl h0 []) E19
      have CH20 := CHr.trans CH0 (CHr.ext E19 CH0.1)
      refine own_go (fun _ => XS.dup X19.here hx rfl (hb hby d1_45) rfl rfl) ?_
      refine own_go (fun _ => XS.iconst X19.here hx rfl (hb hby d1_46)) ?_
      show ∃ t o, Steps p.tables e below (T19.setTop (mkF m 47 #[.val (.int s1), .val (.int r1_2), .val (.int ((s1 &&& (255 : Int32)).toUInt32.toUInt16.toUInt32.toInt32)), .val (.int ((((s1.toUInt32 >>> ((8 : Int32) &&& 31).toUInt32).toInt32) &&& (255 : Int32)).toUInt32.toUInt16.toUInt32.toInt32))] [(.int (1 : Int32)), (.ref b19), (.ref b19)])) t ∧ _
      obtain ⟨T21, h21, k21, X21, e21, E21, A21, st21⟩ := newP X19 hx hZ (hw _ (List.mem_of_getElem? (i := 13) rfl)) e19 (g := (mkF m 47 #[.val (.int s1), .val (.int r1_2), .val (.int ((s1 &&& (255 : Int32)).toUInt32.toUInt16.toUInt32.toInt32)), .val (.int ((((s1.toUInt32 >>> ((8 : Int32) &&& 31).toUInt32).toInt32) &&& (255 : Int32)).toUInt32.toUInt16.toUInt32.toInt32))] [(.int (1 : Int32)), (.ref b19), (.ref b19)])) rfl (hb hby d1_47) rfl (by decide) (cap := 1) (by decide) (by decide) (by decide) (by decide)
      obtain ⟨b21, g21⟩ : ∃ z, z = h19.size := ⟨_, rfl⟩
      rw [← g21] at A21 st21
      refine own_go st21 ?_
      have le_21 : h19.size ≤ h21.size := E21.1
      have lt_b21 : b21 < h21.size := A21.lt
      have V_b21 : Arv Z h21 b21 k21 .char (1 : Int32) [(.int (0 : Int32))] (.int (0 : Int32)) := (Arv.new A21 (by decide)).pad (pad_rep [] (.int (0 : Int32)) 1)
      have K21 : Keep h0 h21 [] := Keep.ext K19 E21
      have CH22 := CHr.trans CH20 (CHr.ext E21 CH20.1)
      refine own_go (fun _ => XS.dup X21.here hx rfl (hb hby d1_49) rfl rfl) ?_
      refine own_go (fun _ => XS.iconst X21.here hx rfl (hb hby d1_50)) ?_
      show ∃ t o, Steps p.tables e below (T21.setTop (mkF m 51 #[.val (.int s1), .val (.int r1_2), .val (.int ((s1 &&& (255 : Int32)).toUInt32.toUInt16.toUInt32.toInt32)), .val (.int ((((s1.toUInt32 >>> ((8 : Int32) &&& 31).toUInt32).toInt32) &&& (255 : Int32)).toUInt32.toUInt16.toUInt32.toInt32))] [(.int (0 : Int32)), (.ref b21), (.ref b21), (.ref b19), (.ref b19)])) t ∧ _
      refine own_go (fun _ => XS.iloadN X21.here hx rfl (hb hby d1_51) rfl) ?_
      obtain ⟨cl23, Ar23, q23, S23, N23, H23, G23⟩ := id V_b21
      have sf24 := Safe.arr (EL := own_EL) hZ.alike Ar23 (by decide)
      have hin23 : ¬ ((0 : Int32) < 0 ∨ cl23.slots.size ≤ ((0 : Int32)).toNatClampNeg) := inb_of S23 ⟨by decide, by decide⟩
      obtain ⟨T25, h25, X25, e25, W25, st25⟩ := stC X21 hx hZ e21 Ar23 (j := (0 : Int32)) hin23 (g := (mkF m 52 #[.val (.int s1), .val (.int r1_2), .val (.int ((s1 &&& (255 : Int32)).toUInt32.toUInt16.toUInt32.toInt32)), .val (.int ((((s1.toUInt32 >>> ((8 : Int32) &&& 31).toUInt32).toInt32) &&& (255 : Int32)).toUInt32.toUInt16.toUInt32.toInt32))] [(.int ((s1 &&& (255 : Int32)).toUInt32.toUInt16.toUInt32.toInt32)), (.int (0 : Int32)), (.ref b21), (.ref b21), (.ref b19), (.ref b19)])) rfl rfl (hb hby d1_52)
      refine own_go st25 ?_
      have CH26 := CHr.trans CH22 (CHr.wr W25 sf24 CH22.1)
      have ge27 : n0 ≤ b21 := by omega
      have le_25 : h21.size ≤ h25.size := Nat.le_of_eq W25.size.symm
      have sz28 : h0.size ≤ b21 := by omega
      have K25 : Keep h0 h25 [] := Keep.wr K21 W25 (Or.inr sz28)
      have N25 := Fr.snoc X25 N2 ge27
      have V25 : Arv Z h25 b21 k21 .char (1 : Int32) [(.int (nar .char ((s1 &&& (255 : Int32)).toUInt32.toUInt16.toUInt32.toInt32)))] (.int (0 : Int32)) := Arv.set Ar23 q23 S23 N23 H23 G23 (fits_nar_char _) W25 0 rfl (Nat.le_of_ble_eq_true rfl)
      show ∃ t o, Steps p.tables e below (T25.setTop (mkF m 53 #[.val (.int s1), .val (.int r1_2), .val (.int ((s1 &&& (255 : Int32)).toUInt32.toUInt16.toUInt32.toInt32)), .val (.int ((((s1.toUInt32 >>> ((8 : Int32) &&& 31).toUInt32).toInt32) &&& (255 : Int32)).toUInt32.toUInt16.toUInt32.toInt32))] [(.ref b21), (.ref b19), (.ref b19)])) t ∧ _
      have hws : ∀ d ∈ StrChars.Road.words, d.before a0 Z = true := fun d hd => hw d ((by decide +kernel : ∀ d ∈ StrChars.Road.words, d ∈ tables_1) d hd)
      have hp29 : ∀ c ∈ ([(nar .char ((s1 &&& (255 : Int32)).toUInt32.toUInt16.toUInt32.toInt32))] : List Int32), ¬ c < 0 ∧ ¬ (255 : Int32) < c := (own_allS (own_and255 _) own_all0)
      have F30 : Exa Z h25 b19 "java/lang/String" := (Exa.wr W25 (Exa.ext E21 A19))
      have ne31 : b19 ≠ b21 := own_ne (by omega)
      have F32 : Fld Z h25 b19 "java/lang/String" "value" "[B" .null := (Fld.other W25 (Fld.ext E21 F_value_b19) (Or.inl ne31))
      have F33 : Fld Z h25 b19 "java/lang/String" "coder" "B" (.int (0 : Int32)) := (Fld.other W25 (Fld.ext E21 F_coder_b19) (Or.inl ne31))
      have F34 : Old Z n0 h25 := (Old.wr ((OLD.ext E19).ext E21) W25 ge27)
      have zl35 : n0 ≤ h25.size := by omega
      have ge36 : n0 ≤ b19 := by omega
      have sf37 := own_safe_null (EL := own_EL) hZ.alike F30 F32
      obtain ⟨_, _, ⟨T29, L29, k29, n29⟩, -, X29, ⟨Lc29, hQ29, l29, y29, z29⟩, st29⟩ := X25.specialBack hx (y := (⟨"java/lang/String", "<init>", "([C)V"⟩ : MethodName)) rfl hown (mvT hZ (hw _ (List.mem_of_getElem? (i := 14) rfl))) (mvT hZ (hw _ (List.mem_of_getElem? (i := 15) rfl))) (mvT hZ (hw _ (List.mem_of_getElem? (i := 16) rfl))) (by decide) (StrChars.Road.backV (W := 1) hZ hws (kI := 4) (hw _ (List.mem_of_getElem? (i := 11) rfl)) (cs := ([(nar .char ((s1 &&& (255 : Int32)).toUInt32.toUInt16.toUInt32.toInt32))] : List Int32)) (bs := (([(nar .char ((s1 &&& (255 : Int32)).toUInt32.toUInt16.toUInt32.toInt32))] : List Int32)).map (fun c => c.toInt8.toInt32)) (n := 1) ge36 zl35 F30 F32 F33 V25 (Sta.ext F34.2 P1) hzc rfl rfl (by decide) (by decide) hp29 rfl (by decide) (by decide)) (g := (mkF m 53 #[.val (.int s1), .val (.int r1_2), .val (.int ((s1 &&& (255 : Int32)).toUInt32.toUInt16.toUInt32.toInt32)), .val (.int ((((s1.toUInt32 >>> ((8 : Int32) &&& 31).toUInt32).toInt32) &&& (255 : Int32)).toUInt32.toUInt16.toUInt32.toInt32))] [(.ref b21), (.ref b19), (.ref b19)])) rfl (by rw [hml]; rfl) (Steps.refl _) (a := b19) (argsL := [(.ref b21)]) (rest := [(.ref b19)]) (lenOf pd__28_5bC_29V rfl) rfl (by show 2 * 0 + _ ≤ _; exact Nat.le_of_eq rfl) (hb hby d1_53) (fun _ _ => ⟨rfl, e25, (by decide : 2 + 1 ≤ _), (by decide : 5 + 1 ≤ _)⟩)
      dsimp only [Pt.U, Pt.locs, Pt.cells, Pt.slots] at X29 l29 y29 z29 st29 hQ29
      subst l29 y29 z29
      obtain ⟨rfl, Nq29, Kp29, G29_0, G29_1, t29, kb29, u29_1, u29_2, u29_3, G29_2, G29_3⟩ := hQ29
      have N29 := Fr.app N25 Nq29
      refine own_goT st29 ?_
      have le_29 : h25.size ≤ T29.heap.size := Kp29.1
      have sz38 : h0.size ≤ b19 := by omega
      have K29 : Keep h0 T29.heap [] := Keep.trans K25 Kp29 (allS (Or.inr sz38) all0)
      have CH39 := CHr.trans CH26 (CHr.keep Kp29 (allS sf37 all0) CH26.1)
      have G29_4 : Arv Z T29.heap t29 kb29 .byte (1 : Int32) [(.int ((nar .char ((s1 &&& (255 : Int32)).toUInt32.toUInt16.toUInt32.toInt32)).toInt8.toInt32))] (.int (0 : Int32)) := G29_3
      have lt_t29 : (t29 : Nat) < T29.heap.size := G29_3.lt
      have sr40 : own_Str Z T29.heap b19 (own_cs s1) := by rw [(own_cs1 (H2_0 ▸ hc3) (H2_0 ▸ hc18))]; exact ⟨t29, _, _, _, G29_0, G29_2, G29_1, G29_4, Or.inl ⟨rfl, rfl, rfl, fun c hc => ((by rw [← (own_cs1 (H2_0 ▸ hc3) (H2_0 ▸ hc18))] at hc; exact own_csr s1 c hc) : ¬ c < 0 ∧ ¬ (255 : Int32) < c).2⟩⟩
      show ∃ t o, Steps p.tables e below (T29.setTop (mkF m 56 #[.val (.int s1), .val (.int r1_2), .val (.int ((s1 &&& (255 : Int32)).toUInt32.toUInt16.toUInt32.toInt32)), .val (.int ((((s1.toUInt32 >>> ((8 : Int32) &&& 31).toUInt32).toInt32) &&& (255 : Int32)).toUInt32.toUInt16.toUInt32.toInt32))] [(.ref b19)])) t ∧ _
      obtain ⟨fs, hr, hrun, hended, hW⟩ := Jvm.Stand.leaveW X29 hS (Nat.zero_le _) (v := some (.ref b19)) (fun h => by rw [Bd.returns] at h; cases h)
      have CHz : CHr Z own_EL s.vm s.heap T29.vm T29.heap := by rw [hh]; exact CHr.trans CH39 (CHv.at X29 hZ hEL CH39.1)
      refine ⟨_, _, ?_, hrun, hended, _, _, rfl, ?_, CHz, ⟨hW.1, hW.2.1, hW.2.2.1, hW.2.2.2.mono (by decide) (by decide)⟩⟩
      · jvm_step X29.here [X29.here.top, hx, (hb hby d1_56), X29.method', Bd.returns, Value.isRef, FieldType.isReference]
        first | (intro acts; rw [hr _ acts rfl rfl rfl]) | rw [hr _ _ rfl rfl rfl]
        exact Steps.refl _
      · show Q_rmMk Z _ _ h0 n0 _ T29.heap _
        exact ⟨b19, rfl, N29, K29, G29_0, sr40, (by omega)⟩
    · refine own_go (fun _ => XS.icmpYes X2.here hx rfl (pc0 := 39) (pc' := 57) rfl (hb hby d1_39) rfl (feq hc18).2 (by decide) (by decide)) ?_
      show ∃ t o, Steps p.tables e below (T2.setTop (mkF m 57 #[.val (.int s1), .val (.int r1_2), .val (.int ((s1 &&& (255 : Int32)).toUInt32.toUInt16.toUInt32.toInt32)), .val (.int ((((s1.toUInt32 >>> ((8 : Int32) &&& 31).toUInt32).toInt32) &&& (255 : Int32)).toUInt32.toUInt16.toUInt32.toInt32))] [])) t ∧ _
      obtain ⟨T41, h41, X41, e41, E41, A41, D41, -, st41⟩ := newO X2 hx hZ hown (hw _ (List.mem_of_getElem? (i := 10) rfl)) (hw _ (List.mem_of_getElem? (i := 11) rfl)) (hw _ (List.mem_of_getElem? (i := 12) rfl)) e2 (g := (mkF m 57 #[.val (.int s1), .val (.int r1_2), .val (.int ((s1 &&& (255 : Int32)).toUInt32.toUInt16.toUInt32.toInt32)), .val (.int ((((s1.toUInt32 >>> ((8 : Int32) &&& 31).toUInt32).toInt32) &&& (255 : Int32)).toUInt32.toUInt16.toUInt32.toInt32))] [])) rfl (hb hby d1_57) (by decide) (by decide)
      obtain ⟨b41, g41⟩ : ∃ z, z = h0.size := ⟨_, rfl⟩
      rw [← g41] at A41 D41 st41
      refine own_go st41 ?_
      have le_41 : h0.size ≤ h41.size := E41.1
      have lt_b41 : b41 < h41.size := A41.lt
      have F_value_b41 : Fld Z h41 b41 "java/lang/String" "value" "[B" .null := D41 (Or.inr (hw _ (List.mem_of_getElem? (i := 26) rfl))) (ty := (.array .byte)) (by decide)
      have F_coder_b41 : Fld Z h41 b41 "java/lang/String" "coder" "B" (.int (0 : Int32)) := D41 (Or.inr (hw _ (List.mem_of_getElem? (i := 27) rfl))) (ty := .byte) (by decide)
      have K41 : Keep h0 h41 [] := Keep.ext (Keep.refl h0 []) E41
      have CH42 := CHr.trans CH0 (CHr.ext E41 CH0.1)
      refine own_go (fun _ => XS.dup X41.here hx rfl (hb hby d1_60) rfl rfl) ?_
      refine own_go (fun _ => XS.iconst X41.here hx rfl (hb hby d1_61)) ?_
      show ∃ t o, Steps p.tables e below (T41.setTop (mkF m 62 #[.val (.int s1), .val (.int r1_2), .val (.int ((s1 &&& (255 : Int32)).toUInt32.toUInt16.toUInt32.toInt32)), .val (.int ((((s1.toUInt32 >>> ((8 : Int32) &&& 31).toUInt32).toInt32) &&& (255 : Int32)).toUInt32.toUInt16.toUInt32.toInt32))] [(.int (2 : Int32)), (.ref b41), (.ref b41)])) t ∧ _
      obtain ⟨T43, h43, k43, X43, e43, E43, A43, st43⟩ := newP X41 hx hZ (hw _ (List.mem_of_getElem? (i := 13) rfl)) e41 (g := (mkF m 62 #[.val (.int s1), .val (.int r1_2), .val (.int ((s1 &&& (255 : Int32)).toUInt32.toUInt16.toUInt32.toInt32)), .val (.int ((((s1.toUInt32 >>> ((8 : Int32) &&& 31).toUInt32).toInt32) &&& (255 : Int32)).toUInt32.toUInt16.toUInt32.toInt32))] [(.int (2 : Int32)), (.ref b41), (.ref b41)])) rfl (hb hby d1_62) rfl (by decide) (cap := 2) (by decide) (by decide) (by decide) (by decide)
      obtain ⟨b43, g43⟩ : ∃ z, z = h41.size := ⟨_, rfl⟩
      rw [← g43] at A43 st43
      refine own_go st43 ?_
      have le_43 : h41.size ≤ h43.size := E43.1
      have lt_b43 : b43 < h43.size := A43.lt
      have V_b43 : Arv Z h43 b43 k43 .char (2 : Int32) [(.int (0 : Int32)), (.int (0 : Int32))] (.int (0 : Int32)) := (Arv.new A43 (by decide)).pad (pad_rep [] (.int (0 : Int32)) 2)
      have K43 : Keep h0 h43 [] := Keep.ext K41 E43
      have CH44 := CHr.trans CH42 (CHr.ext E43 CH42.1)
      refine own_go (fun _ => XS.dup X43.here hx rfl (hb hby d1_64) rfl rfl) ?_
      refine own_go (fun _ => XS.iconst X43.here hx rfl (hb hby d1_65)) ?_
      show ∃ t o, Steps p.tables e below (T43.setTop (mkF m 66 #[.val (.int s1), .val (.int r1_2), .val (.int ((s1 &&& (255 : Int32)).toUInt32.toUInt16.toUInt32.toInt32)), .val (.int ((((s1.toUInt32 >>> ((8 : Int32) &&& 31).toUInt32).toInt32) &&& (255 : Int32)).toUInt32.toUInt16.toUInt32.toInt32))] [(.int (0 : Int32)), (.ref b43), (.ref b43), (.ref b41), (.ref b41)])) t ∧ _
      refine own_go (fun _ => XS.iloadN X43.here hx rfl (hb hby d1_66) rfl) ?_
      obtain ⟨cl45, Ar45, q45, S45, N45, H45, G45⟩ := id V_b43
      have sf46 := Safe.arr (EL := own_EL) hZ.alike Ar45 (by decide)
      have hin45 : ¬ ((0 : Int32) < 0 ∨ cl45.slots.size ≤ ((0 : Int32)).toNatClampNeg) := inb_of S45 ⟨by decide, by decide⟩
      obtain ⟨T47, h47, X47, e47, W47, st47⟩ := stC X43 hx hZ e43 Ar45 (j := (0 : Int32)) hin45 (g := (mkF m 67 #[.val (.int s1), .val (.int r1_2), .val (.int ((s1 &&& (255 : Int32)).toUInt32.toUInt16.toUInt32.toInt32)), .val (.int ((((s1.toUInt32 >>> ((8 : Int32) &&& 31).toUInt32).toInt32) &&& (255 : Int32)).toUInt32.toUInt16.toUInt32.toInt32))] [(.int ((s1 &&& (255 : Int32)).toUInt32.toUInt16.toUInt32.toInt32)), (.int (0 : Int32)), (.ref b43), (.ref b43), (.ref b41), (.ref b41)])) rfl rfl (hb hby d1_67)
      refine own_go st47 ?_
      have CH48 := CHr.trans CH44 (CHr.wr W47 sf46 CH44.1)
      have ge49 : n0 ≤ b43 := by omega
      have le_47 : h43.size ≤ h47.size := Nat.le_of_eq W47.size.symm
      have sz50 : h0.size ≤ b43 := by omega
      have K47 : Keep h0 h47 [] := Keep.wr K43 W47 (Or.inr sz50)
      have N47 := Fr.snoc X47 N2 ge49
      have V47 : Arv Z h47 b43 k43 .char (2 : Int32) [(.int (nar .char ((s1 &&& (255 : Int32)).toUInt32.toUInt16.toUInt32.toInt32))), (.int (0 : Int32))] (.int (0 : Int32)) := Arv.set Ar45 q45 S45 N45 H45 G45 (fits_nar_char _) W47 0 rfl (Nat.le_of_ble_eq_true rfl)
      refine own_go (fun _ => XS.dup X47.here hx rfl (hb hby d1_68) rfl rfl) ?_
      show ∃ t o, Steps p.tables e below (T47.setTop (mkF m 69 #[.val (.int s1), .val (.int r1_2), .val (.int ((s1 &&& (255 : Int32)).toUInt32.toUInt16.toUInt32.toInt32)), .val (.int ((((s1.toUInt32 >>> ((8 : Int32) &&& 31).toUInt32).toInt32) &&& (255 : Int32)).toUInt32.toUInt16.toUInt32.toInt32))] [(.ref b43), (.ref b43), (.ref b41), (.ref b41)])) t ∧ _
      refine own_go (fun _ => XS.iconst X47.here hx rfl (hb hby d1_69)) ?_
      refine own_go (fun _ => XS.iloadN X47.here hx rfl (hb hby d1_70) rfl) ?_
      obtain ⟨cl51, Ar51, q51, S51, N51, H51, G51⟩ := id V47
      have sf52 := Safe.arr (EL := own_EL) hZ.alike Ar51 (by decide)
      have hin51 : ¬ ((1 : Int32) < 0 ∨ cl51.slots.size ≤ ((1 : Int32)).toNatClampNeg) := inb_of S51 ⟨by decide, by decide⟩
      obtain ⟨T53, h53, X53, e53, W53, st53⟩ := stC X47 hx hZ e47 Ar51 (j := (1 : Int32)) hin51 (g := (mkF m 71 #[.val (.int s1), .val (.int r1_2), .val (.int ((s1 &&& (255 : Int32)).toUInt32.toUInt16.toUInt32.toInt32)), .val (.int ((((s1.toUInt32 >>> ((8 : Int32) &&& 31).toUInt32).toInt32) &&& (255 : Int32)).toUInt32.toUInt16.toUInt32.toInt32))] [(.int ((((s1.toUInt32 >>> ((8 : Int32) &&& 31).toUInt32).toInt32) &&& (255 : Int32)).toUInt32.toUInt16.toUInt32.toInt32)), (.int (1 : Int32)), (.ref b43), (.ref b43), (.ref b41), (.ref b41)])) rfl rfl (hb hby d1_71)
      refine own_go st53 ?_
      have CH54 := CHr.trans CH48 (CHr.wr W53 sf52 CH48.1)
      have le_53 : h47.size ≤ h53.size := Nat.le_of_eq W53.size.symm
      have K53 : Keep h0 h53 [] := Keep.wr K47 W53 (Or.inr sz50)
      have N53 := Fr.snoc X53 N47 ge49
      have V53 : Arv Z h53 b43 k43 .char (2 : Int32) [(.int (nar .char ((s1 &&& (255 : Int32)).toUInt32.toUInt16.toUInt32.toInt32))), (.int (nar .char ((((s1.toUInt32 >>> ((8 : Int32) &&& 31).toUInt32).toInt32) &&& (255 : Int32)).toUInt32.toUInt16.toUInt32.toInt32)))] (.int (0 : Int32)) := Arv.set Ar51 q51 S51 N51 H51 G51 (fits_nar_char _) W53 1 rfl (Nat.le_of_ble_eq_true rfl)
      show ∃ t o, Steps p.tables e below (T53.setTop (mkF m 72 #[.val (.int s1), .val (.int r1_2), .val (.int ((s1 &&& (255 : Int32)).toUInt32.toUInt16.toUInt32.toInt32)), .val (.int ((((s1.toUInt32 >>> ((8 : Int32) &&& 31).toUInt32).toInt32) &&& (255 : Int32)).toUInt32.toUInt16.toUInt32.toInt32))] [(.ref b43), (.ref b41), (.ref b41)])) t ∧ _
      have hws : ∀ d ∈ StrChars.Road.words, d.before a0 Z = true := fun d hd => hw d ((by decide +kernel : ∀ d ∈ StrChars.Road.words, d ∈ tables_1) d hd)
      have hp55 : ∀ c ∈ ([(nar .char ((s1 &&& (255 : Int32)).toUInt32.toUInt16.toUInt32.toInt32)), (nar .char ((((s1.toUInt32 >>> ((8 : Int32) &&& 31).toUInt32).toInt32) &&& (255 : Int32)).toUInt32.toUInt16.toUInt32.toInt32))] : List Int32), ¬ c < 0 ∧ ¬ (255 : Int32) < c := (own_allS (own_and255 _) (own_allS (own_and255 _) own_all0))
      have F56 : Exa Z h53 b41 "java/lang/String" := (Exa.wr W53 (Exa.wr W47 (Exa.ext E43 A41)))
      have ne57 : b41 ≠ b43 := own_ne (by omega)
      have F58 : Fld Z h53 b41 "java/lang/String" "value" "[B" .null := (Fld.other W53 (Fld.other W47 (Fld.ext E43 F_value_b41) (Or.inl ne57)) (Or.inl ne57))
      have F59 : Fld Z h53 b41 "java/lang/String" "coder" "B" (.int (0 : Int32)) := (Fld.other W53 (Fld.other W47 (Fld.ext E43 F_coder_b41) (Or.inl ne57)) (Or.inl ne57))
      have F60 : Old Z n0 h53 := (Old.wr (Old.wr ((OLD.ext E41).ext E43) W47 ge49) W53 ge49)
      have zl61 : n0 ≤ h53.size := by omega
      have ge62 : n0 ≤ b41 := by omega
      have sf63 := own_safe_null (EL := own_EL) hZ.alike F56 F58
      obtain ⟨_, _, ⟨T55, L55, k55, n55⟩, -, X55, ⟨Lc55, hQ55, l55, y55, z55⟩, st55⟩ := X53.specialBack hx (y := (⟨"java/lang/String", "<init>", "([C)V"⟩ : MethodName)) rfl hown (mvT hZ (hw _ (List.mem_of_getElem? (i := 14) rfl))) (mvT hZ (hw _ (List.mem_of_getElem? (i := 15) rfl))) (mvT hZ (hw _ (List.mem_of_getElem? (i := 16) rfl))) (by decide) (StrChars.Road.backV (W := 1) hZ hws (kI := 4) (hw _ (List.mem_of_getElem? (i := 11) rfl)) (cs := ([(nar .char ((s1 &&& (255 : Int32)).toUInt32.toUInt16.toUInt32.toInt32)), (nar .char ((((s1.toUInt32 >>> ((8 : Int32) &&& 31).toUInt32).toInt32) &&& (255 : Int32)).toUInt32.toUInt16.toUInt32.toInt32))] : List Int32)) (bs := (([(nar .char ((s1 &&& (255 : Int32)).toUInt32.toUInt16.toUInt32.toInt32)), (nar .char ((((s1.toUInt32 >>> ((8 : Int32) &&& 31).toUInt32).toInt32) &&& (255 : Int32)).toUInt32.toUInt16.toUInt32.toInt32))] : List Int32)).map (fun c => c.toInt8.toInt32)) (n := 2) ge62 zl61 F56 F58 F59 V53 (Sta.ext F60.2 P1) hzc rfl rfl (by decide) (by decide) hp55 rfl (by decide) (by decide)) (g := (mkF m 72 #[.val (.int s1), .val (.int r1_2), .val (.int ((s1 &&& (255 : Int32)).toUInt32.toUInt16.toUInt32.toInt32)), .val (.int ((((s1.toUInt32 >>> ((8 : Int32) &&& 31).toUInt32).toInt32) &&& (255 : Int32)).toUInt32.toUInt16.toUInt32.toInt32))] [(.ref b43), (.ref b41), (.ref b41)])) rfl (by rw [hml]; rfl) (Steps.refl _) (a := b41) (argsL := [(.ref b43)]) (rest := [(.ref b41)]) (lenOf pd__28_5bC_29V rfl) rfl (by show 2 * 0 + _ ≤ _; exact Nat.le_of_eq rfl) (hb hby d1_72) (fun _ _ => ⟨rfl, e53, (by decide : 2 + 1 ≤ _), (by decide : 6 + 2 ≤ _)⟩)
      dsimp only [Pt.U, Pt.locs, Pt.cells, Pt.slots] at X55 l55 y55 z55 st55 hQ55
      subst l55 y55 z55
      obtain ⟨rfl, Nq55, Kp55, G55_0, G55_1, t55, kb55, u55_1, u55_2, u55_3, G55_2, G55_3⟩ := hQ55
      have N55 := Fr.app N53 Nq55
      refine own_goT st55 ?_
      have le_55 : h53.size ≤ T55.heap.size := Kp55.1
      have sz64 : h0.size ≤ b41 := by omega
      have K55 : Keep h0 T55.heap [] := Keep.trans K53 Kp55 (allS (Or.inr sz64) all0)
      have CH65 := CHr.trans CH54 (CHr.keep Kp55 (allS sf63 all0) CH54.1)
      have G55_4 : Arv Z T55.heap t55 kb55 .byte (2 : Int32) [(.int ((nar .char ((s1 &&& (255 : Int32)).toUInt32.toUInt16.toUInt32.toInt32)).toInt8.toInt32)), (.int ((nar .char ((((s1.toUInt32 >>> ((8 : Int32) &&& 31).toUInt32).toInt32) &&& (255 : Int32)).toUInt32.toUInt16.toUInt32.toInt32)).toInt8.toInt32))] (.int (0 : Int32)) := G55_3
      have lt_t55 : (t55 : Nat) < T55.heap.size := G55_3.lt
      have sr66 : own_Str Z T55.heap b41 (own_cs s1) := by rw [(own_cs2 (H2_0 ▸ hc3) (H2_0 ▸ hc18))]; exact ⟨t55, _, _, _, G55_0, G55_2, G55_1, G55_4, Or.inl ⟨rfl, rfl, rfl, fun c hc => ((by rw [← (own_cs2 (H2_0 ▸ hc3) (H2_0 ▸ hc18))] at hc; exact own_csr s1 c hc) : ¬ c < 0 ∧ ¬ (255 : Int32) < c).2⟩⟩
      show ∃ t o, Steps p.tables e below (T55.setTop (mkF m 75 #[.val (.int s1), .val (.int r1_2), .val (.int ((s1 &&& (255 : Int32)).toUInt32.toUInt16.toUInt32.toInt32)), .val (.int ((((s1.toUInt32 >>> ((8 : Int32) &&& 31).toUInt32).toInt32) &&& (255 : Int32)).toUInt32.toUInt16.toUInt32.toInt32))] [(.ref b41)])) t ∧ _
      obtain ⟨fs, hr, hrun, hended, hW⟩ := Jvm.Stand.leaveW X55 hS (Nat.zero_le _) (v := some (.ref b41)) (fun h => by rw [Bd.returns] at h; cases h)
      have CHz : CHr Z own_EL s.vm s.heap T55.vm T55.heap := by rw [hh]; exact CHr.trans CH65 (CHv.at X55 hZ hEL CH65.1)
      refine ⟨_, _, ?_, hrun, hended, _, _, rfl, ?_, CHz, ⟨hW.1, hW.2.1, hW.2.2.1, hW.2.2.2.mono (by decide) (by decide)⟩⟩
      · jvm_step X55.here [X55.here.top, hx, (hb hby d1_75), X55.method', Bd.returns, Value.isRef, FieldType.isReference]
        first | (intro acts; rw [hr _ acts rfl rfl rfl]) | rw [hr _ _ rfl rfl rfl]
        exact Steps.refl _
      · show Q_rmMk Z _ _ h0 n0 _ T55.heap _
        exact ⟨b41, rfl, N55, K55, G55_0, sr66, (by omega)⟩
theorem ef_rmRq (m : MethodId) (x0 : Nat) (x1 : Nat) : entryFrame m #[(.ref x0), (.ref x1)] 2 = mkF m 0 #[.val (.ref x0), .val (.ref x1)] [] := by first | (simp [entryFrame, mkF, argsToLocals, Value.category]; done) | rfl
theorem d7_0 : decode jdk_31_method_11_code 0 = .ok (.aload_n 0, 1) := by decide +kernel
theorem d7_1 : decode jdk_31_method_11_code 1 = .ok (.ifnonnull 12, 3) := by decide +kernel
theorem d7_13 : decode jdk_31_method_11_code 13 = .ok (.aload_n 0, 1) := by decide +kernel
theorem d7_14 : decode jdk_31_method_11_code 14 = .ok (.areturn, 1) := by decide +kernel
theorem pn_java_util_Objects : plainName "java/util/Objects" = true := by first | (simp [plainName, overriddenIn]; done) | decide +kernel
def Q_rmRq (Z : State) (o1 : Nat) (o2 : Nat) (h0 : Heap) (n0 : Nat) (v : Option Value) (h : Heap) (L : List Loc) : Prop := v = some (.ref o1) ∧ Fr n0 L ∧ h = h0
set_option maxRecDepth 65536 in
set_option maxHeartbeats 40000000 in
theorem rmRq (l : Launch) (Z : State) (a0 : Array Value) (hw : ∀ d ∈ tables_1, d.before a0 Z = true) (ws : List Jvm.Cond) (o1 : Nat) (o2 : Nat) (h0 : Heap) (n0 : Nat) (Z0 : n0 ≤ h0.size) (OLD : Old Z n0 h0) :
    MetFree l (⟨"java/util/Objects", "requireNonNull", "(Ljava/lang/Object;Ljava/lang/String;)Ljava/lang/Object;"⟩ : MethodName) (head1 (Jvm.Cond.code (⟨"java/util/Objects", "requireNonNull", "(Ljava/lang/Object;Ljava/lang/String;)Ljava/lang/Object;"⟩ : MethodName) jdk_31_method_11_code 2 (some (.object "java/lang/Object")) :: ws) ({ frames := 0, cells := 0, slots := 0, locals := 0 } : Room)) (fun a U => a = #[(.ref o1), (.ref o2)] ∧ Z.Warmed39 U.vm ∧ U.heap = h0) (fun _ _ _ _ _ => True) (fun _ U o U' => ∃ v L, o = .returned v ∧ Q_rmRq Z o1 o2 h0 n0 v U'.heap L ∧ FrameEnd U o U' L ({ frames := 0, cells := 0, slots := 0, locals := 0 } : Room).cells ({ frames := 0, cells := 0, slots := 0, locals := 0 } : Room).slots) := by
  refine MetFree.of_bodySF (plainFor_of_name pn_java_util_Objects) hisR ?_
  intro p e s m args below meth c s₁ Bd hml0 hP hK
  obtain ⟨rfl, hZ, hh⟩ := hP
  have hx := Bd.exec
  have hby := Bd.bytes
  have hml : c.maxLocals = 2 := hml0
  have hown : s.vm.findClass "java/util/Objects" = some m.cls := findClass_of_methodNamed Bd.named
  have hnm := (name_of_methodNamed Bd.named Bd.method).1
  have X0 : Stand p l e ({ frames := 0, cells := 0, slots := 0, locals := 0 } : Room) s m #[(.ref o1), (.ref o2)] below meth c s₁ [] 0 0 := Stand.of_body Bd
  have e0 : s₁.heap = h0 := by rw [← hh, Bd.state]; rfl
  have N0 := Fr.nil n0
  have pre0 : ∀ t, Steps p.tables e below (s₁.setTop (mkF m 0 #[.val (.ref o1), .val (.ref o2)] [])) t → Steps p.tables e below (s₁.setTop (entryFrame m #[(.ref o1), (.ref o2)] 2)) t := fun t k => castTop (ef_rmRq m o1 o2) k
  have oz := OLD.1
  refine own_go (B := s₁.setTop (mkF m 0 #[.val (.ref o1), .val (.ref o2)] [])) pre0 ?_
  show ∃ t o, Steps p.tables e below (s₁.setTop (mkF m 0 #[.val (.ref o1), .val (.ref o2)] [])) t ∧ _
  refine own_go (fun _ => XS.aloadN X0.here hx rfl (hb hby d7_0) rfl rfl) ?_
  show ∃ t o, Steps p.tables e below (s₁.setTop (mkF m 1 #[.val (.ref o1), .val (.ref o2)] [(.ref o1)])) t ∧ _
  refine own_go (fun _ => XS.ifnonnullYes X0.here hx rfl (pc0 := 1) (pc' := 13) rfl (hb hby d7_1) rfl (by decide) (by decide)) ?_
  refine own_go (fun _ => XS.aloadN X0.here hx rfl (hb hby d7_13) rfl rfl) ?_
  show ∃ t o, Steps p.tables e below (s₁.setTop (mkF m 14 #[.val (.ref o1), .val (.ref o2)] [(.ref o1)])) t ∧ _
  obtain ⟨fs, hr, hrun, hended, hW, hsame⟩ := X0.leave (v := some (.ref o1)) (fun h => by rw [Bd.returns] at h; cases h)
  refine ⟨_, _, ?_, hrun, hended, _, _, rfl, ?_, ⟨_, rfl⟩, hW, hsame.mono (by decide) (by decide)⟩
  · jvm_step X0.here [X0.here.top, hx, (hb hby d7_14), X0.method', Bd.returns, Value.isRef, FieldType.isReference]
    first | (intro acts; rw [hr _ acts rfl rfl rfl]) | rw [hr _ _ rfl rfl rfl]
    exact Steps.refl _
  · show Q_rmRq Z _ _ h0 n0 _ s₁.heap _
    rw [e0]
    exact ⟨rfl, N0, rfl⟩
theorem ef_rmJI (m : MethodId) (x0 : Nat) (x1 : Nat) (x2 : Nat) : entryFrame m #[(.ref x0), (.ref x1), (.ref x2)] 3 = mkF m 0 #[.val (.ref x0), .val (.ref x1), .val (.ref x2)] [] := by first | (simp [entryFrame, mkF, argsToLocals, Value.category]; done) | rfl
theorem d6_0 : decode prog_27_method_1_code 0 = .ok (.aload_n 0, 1) := by decide +kernel
theorem d6_1 : decode prog_27_method_1_code 1 = .ok (.invokespecial 1, 3) := by decide +kernel
theorem d6_4 : decode prog_27_method_1_code 4 = .ok (.aload_n 0, 1) := by decide +kernel
theorem d6_5 : decode prog_27_method_1_code 5 = .ok (.aload_n 1, 1) := by decide +kernel
theorem d6_6 : decode prog_27_method_1_code 6 = .ok (.ldc 7, 2) := by decide +kernel
theorem d6_8 : decode prog_27_method_1_code 8 = .ok (.invokestatic 9, 3) := by decide +kernel
theorem pd_hb4046d0a : parseMethodDescriptor "(Ljava/lang/Object;Ljava/lang/String;)Ljava/lang/Object;" = some ⟨[(.object "java/lang/Object"), (.object "java/lang/String")], some (.object "java/lang/Object")⟩ := by decide +kernel
theorem d6_11 : decode prog_27_method_1_code 11 = .ok (.checkcast 15, 3) := by decide +kernel
theorem d6_14 : decode prog_27_method_1_code 14 = .ok (.putfield 17, 3) := by decide +kernel
theorem d6_17 : decode prog_27_method_1_code 17 = .ok (.aload_n 0, 1) := by decide +kernel
theorem d6_18 : decode prog_27_method_1_code 18 = .ok (.aload_n 2, 1) := by decide +kernel
theorem d6_19 : decode prog_27_method_1_code 19 = .ok (.ldc 22, 2) := by decide +kernel
theorem d6_21 : decode prog_27_method_1_code 21 = .ok (.invokestatic 9, 3) := by decide +kernel
theorem d6_24 : decode prog_27_method_1_code 24 = .ok (.checkcast 15, 3) := by decide +kernel
theorem d6_27 : decode prog_27_method_1_code 27 = .ok (.putfield 24, 3) := by decide +kernel
theorem d6_30 : decode prog_27_method_1_code 30 = .ok (.return_, 1) := by decide +kernel
theorem pn_com_example_ipomoea_ipomoea_store_JobKey : plainName "com/example/ipomoea/ipomoea/store/JobKey" = true := by first | (simp [plainName, overriddenIn]; done) | decide +kernel
def Q_rmJI (Z : State) (a1 : Nat) (c1 : Nat) (d1 : Nat) (h0 : Heap) (n0 : Nat) (v : Option Value) (h : Heap) (L : List Loc) : Prop := v = none ∧ Fr n0 L ∧ Keep h0 h [a1] ∧ Exa Z h a1 "com/example/ipomoea/ipomoea/store/JobKey" ∧ Fld Z h a1 "com/example/ipomoea/ipomoea/store/JobKey" "collection" "Ljava/lang/String;" (.ref c1) ∧ Fld Z h a1 "com/example/ipomoea/ipomoea/store/JobKey" "name" "Ljava/lang/String;" (.ref d1)
set_option maxRecDepth 65536 in
set_option maxHeartbeats 40000000 in
theorem rmJI (l : Launch) (Z : State) (a0 : Array Value) (hw : ∀ d ∈ tables_1, d.before a0 Z = true) (ws : List Jvm.Cond) (a1 : Nat) (c1 : Nat) (d1 : Nat) (h0 : Heap) (n0 : Nat) (Z0 : n0 ≤ h0.size) (P1 : Exa Z h0 a1 "com/example/ipomoea/ipomoea/store/JobKey") (P2 : Fld Z h0 a1 "com/example/ipomoea/ipomoea/store/JobKey" "collection" "Ljava/lang/String;" .null) (P3 : Fld Z h0 a1 "com/example/ipomoea/ipomoea/store/JobKey" "name" "Ljava/lang/String;" .null) (P4 : Exa Z h0 c1 "java/lang/String") (P5 : Exa Z h0 d1 "java/lang/String") (OLD : Old Z n0 h0) (ga : n0 ≤ a1) (hEL : EW Z a0 own_EL) :
    MetFree l (⟨"com/example/ipomoea/ipomoea/store/JobKey", "<init>", "(Ljava/lang/String;Ljava/lang/String;)V"⟩ : MethodName) (head1 (Jvm.Cond.code (⟨"com/example/ipomoea/ipomoea/store/JobKey", "<init>", "(Ljava/lang/String;Ljava/lang/String;)V"⟩ : MethodName) prog_27_method_1_code 3 none :: ws) ({ frames := 1, cells := 4, slots := 64, locals := 14 } : Room)) (fun a U => a = #[(.ref a1), (.ref c1), (.ref d1)] ∧ Z.Warmed39 U.vm ∧ U.heap = h0 ∧ CHv Z own_EL U.vm h0) (fun _ _ _ _ _ => True) (fun _ U o U' => ∃ v L, o = .returned v ∧ Q_rmJI Z a1 c1 d1 h0 n0 v U'.heap L ∧ CHr Z own_EL U.vm U.heap U'.vm U'.heap ∧ ReturnedEndW U o U' L ({ frames := 1, cells := 4, slots := 64, locals := 14 } : Room).cells ({ frames := 1, cells := 4, slots := 64, locals := 14 } : Room).slots) := by
  refine MetFree.of_bodySF (plainFor_of_name pn_com_example_ipomoea_ipomoea_store_JobKey) hisR ?_
  intro p e s m args below meth c s₁ Bd hml0 hP hK
  obtain ⟨rfl, hZ, hh, hCH⟩ := hP
  have hx := Bd.exec
  have hby := Bd.bytes
  have hml : c.maxLocals = 3 := hml0
  have hown : s.vm.findClass "com/example/ipomoea/ipomoea/store/JobKey" = some m.cls := findClass_of_methodNamed Bd.named
  have hnm := (name_of_methodNamed Bd.named Bd.method).1
  have X0 : Stand p l e ({ frames := 1, cells := 4, slots := 64, locals := 14 } : Room) (s.setVm s.vm) m #[(.ref a1), (.ref c1), (.ref d1)] below meth c s₁ [] 0 0 := Stand.of_body Bd
  have e0 : s₁.heap = h0 := by rw [← hh, Bd.state]; rfl
  have N0 := Fr.nil n0
  have pre0 : ∀ t, Steps p.tables e below (s₁.setTop (mkF m 0 #[.val (.ref a1), .val (.ref c1), .val (.ref d1)] [])) t → Steps p.tables e below (s₁.setTop (entryFrame m #[(.ref a1), (.ref c1), (.ref d1)] 3)) t := fun t k => castTop (ef_rmJI m a1 c1 d1) k
  have hZ : Z.Warmed39 (s.setVm s.vm).vm := hZ
  have hown : (s.setVm s.vm).vm.findClass "com/example/ipomoea/ipomoea/store/JobKey" = some m.cls := hown
  have hS : s.Since s.vm 0 := (State.WarmedH.refl s).since 0
  have CH0 : CHr Z own_EL s.vm h0 s.vm h0 := CHr.refl hCH
  have wS : ∀ a ∈ Bundle.stringAtoms, a.before a0 Z = true := fun d hd => hw d ((by decide +kernel : ∀ d ∈ Bundle.stringAtoms, d ∈ tables_1) d hd)
  have oz := OLD.1
  have lt_a1 : a1 < h0.size := P1.lt
  have lt_c1 : c1 < h0.size := P4.lt
  have lt_d1 : d1 < h0.size := P5.lt
  refine own_go (B := s₁.setTop (mkF m 0 #[.val (.ref a1), .val (.ref c1), .val (.ref d1)] [])) pre0 ?_
  show ∃ t o, Steps p.tables e below (s₁.setTop (mkF m 0 #[.val (.ref a1), .val (.ref c1), .val (.ref d1)] [])) t ∧ _
  refine own_go (fun _ => XS.aloadN X0.here hx rfl (hb hby d6_0) rfl rfl) ?_
  show ∃ t o, Steps p.tables e below (s₁.setTop (mkF m 1 #[.val (.ref a1), .val (.ref c1), .val (.ref d1)] [(.ref a1)])) t ∧ _
  obtain ⟨T6, X6, e6, st6⟩ := initO X0 hx hZ hown (hw _ (List.mem_of_getElem? (i := 35) rfl)) (hw _ (List.mem_of_getElem? (i := 22) rfl)) (hw _ (List.mem_of_getElem? (i := 23) rfl)) e0 (g := (mkF m 1 #[.val (.ref a1), .val (.ref c1), .val (.ref d1)] [(.ref a1)])) rfl (by rw [hml]; rfl) rfl (hb hby d6_1) (by decide) (W := 0) (by show 2 * 0 + _ ≤ _; exact Nat.le_of_eq rfl) (by decide)
  refine own_go st6 ?_
  refine own_go (fun _ => XS.aloadN X6.here hx rfl (hb hby d6_4) rfl rfl) ?_
  refine own_go (fun _ => XS.aloadN X6.here hx rfl (hb hby d6_5) rfl rfl) ?_
  show ∃ t o, Steps p.tables e below (T6.setTop (mkF m 6 #[.val (.ref a1), .val (.ref c1), .val (.ref d1)] [(.ref c1), (.ref a1)])) t ∧ _
  obtain ⟨a7, T7, h7, kS7, X7, e7, E7, hS, hk7, hZ, hown, cr7, -, st7⟩ := ldcOH X6 hx hZ hown (hw _ (List.mem_of_getElem? (i := 36) rfl)) wS e6 hS (Nat.zero_le _) hEL CH0.1 (g := (mkF m 6 #[.val (.ref a1), .val (.ref c1), .val (.ref d1)] [(.ref c1), (.ref a1)])) rfl (hb hby d6_6) (n := 40) (by decide) (by decide) (by decide) (by decide)
  refine own_go st7 ?_
  have K7 : Keep h0 h7 [a1] := Keep.ext (Keep.refl h0 [a1]) E7
  have le_7 : h0.size ≤ h7.size := E7.1
  have CH8 := CHr.trans CH0 cr7
  show ∃ t o, Steps p.tables e below (T7.setTop (mkF m 8 #[.val (.ref a1), .val (.ref c1), .val (.ref d1)] [(.ref a7), (.ref c1), (.ref a1)])) t ∧ _
  have F9 : Old Z n0 h7 := (OLD.ext E7)
  have zl10 : n0 ≤ h7.size := by omega
  obtain ⟨_, _, ⟨T11, L11, k11, n11⟩, -, X11, ⟨Lc11, hQ11, l11, y11, z11⟩, st11⟩ := Jvm.LawKit.callS X7 hx (y := (⟨"java/util/Objects", "requireNonNull", "(Ljava/lang/Object;Ljava/lang/String;)Ljava/lang/Object;"⟩ : MethodName)) hown (mvT hZ (hw _ (List.mem_of_getElem? (i := 37) rfl))) (mvT hZ (hw _ (List.mem_of_getElem? (i := 38) rfl))) (mvT hZ (hw _ (List.mem_of_getElem? (i := 39) rfl))) (mvT hZ (hw _ (List.mem_of_getElem? (i := 40) rfl))) (by decide) (backOf (W := 1) (rmRq l Z a0 hw [] c1 a7 h7 n0 zl10 F9) hZ (hw _ (List.mem_of_getElem? (i := 40) rfl)) (hw _ (List.mem_of_getElem? (i := 39) rfl)) (by decide) (by decide)) (g := (mkF m 8 #[.val (.ref a1), .val (.ref c1), .val (.ref d1)] [(.ref a7), (.ref c1), (.ref a1)])) rfl (by rw [hml]; rfl) (argsL := [(.ref c1), (.ref a7)]) (rest := [(.ref a1)]) (lenOf pd_hb4046d0a rfl) rfl (by show 2 * 0 + _ ≤ _; exact Nat.le_of_eq rfl) (hb hby d6_8) (fun _ _ => ⟨rfl, e7, (by decide : 2 + 0 ≤ _), (by decide : 44 + 0 ≤ _)⟩)
  dsimp only [Pt.U, Pt.locs, Pt.cells, Pt.slots] at X11 l11 y11 z11 st11 hQ11
  subst l11 y11 z11
  obtain ⟨rfl, Nq11, e11⟩ := hQ11
  have N11 := Fr.app N0 Nq11
  refine own_go st11 ?_
  have F12 : Exa Z h7 c1 "java/lang/String" := (Exa.ext E7 P4)
  obtain ⟨T13, X13, e13, st13⟩ := castY X11 hx hZ hown (hw _ (List.mem_of_getElem? (i := 41) rfl)) e11 (Ins.self F12) (g := (mkF m 11 #[.val (.ref a1), .val (.ref c1), .val (.ref d1)] [(.ref c1), (.ref a1)])) rfl rfl (hb hby d6_11)
  refine own_go st13 ?_
  have F14 : Exa Z h7 a1 "com/example/ipomoea/ipomoea/store/JobKey" := (Exa.ext E7 P1)
  have F15 : Fld Z h7 a1 "com/example/ipomoea/ipomoea/store/JobKey" "collection" "Ljava/lang/String;" .null := (Fld.ext E7 P2)
  have sf16 := Safe.exa (EL := own_EL) hZ.alike F14 (by decide) (by decide)
  obtain ⟨T17, h17, X17, e17, W17, st17⟩ := putF X13 hx hZ hown (host := "") (Or.inl (hw _ (List.mem_of_getElem? (i := 42) rfl))) Via.refl e13 F15 F14 (Or.inr ⟨(hw _ (List.mem_of_getElem? (i := 43) rfl)), rfl, hnm⟩) (hw _ (List.mem_of_getElem? (i := 1) rfl)) (ty := (.object "java/lang/String")) (by decide) rfl rfl (g := (mkF m 14 #[.val (.ref a1), .val (.ref c1), .val (.ref d1)] [(.ref c1), (.ref a1)])) rfl rfl (hb hby d6_14)
  refine own_go st17 ?_
  have CH18 := CHr.trans CH8 (CHr.wr W17 sf16 CH8.1)
  have le_17 : h7.size ≤ h17.size := Nat.le_of_eq W17.size.symm
  have K17 : Keep h0 h17 [a1] := Keep.wr K7 W17 (Or.inl (List.mem_of_getElem? (i := 0) rfl))
  have N17 := Fr.snoc X17 N11 ga
  have Fw17 := Fld.same W17 F15
  show ∃ t o, Steps p.tables e below (T17.setTop (mkF m 17 #[.val (.ref a1), .val (.ref c1), .val (.ref d1)] [])) t ∧ _
  refine own_go (fun _ => XS.aloadN X17.here hx rfl (hb hby d6_17) rfl rfl) ?_
  refine own_go (fun _ => XS.aloadN X17.here hx rfl (hb hby d6_18) rfl rfl) ?_
  obtain ⟨a19, T19, h19, kS19, X19, e19, E19, hS, hk19, hZ, hown, cr19, -, st19⟩ := ldcOH X17 hx hZ hown (hw _ (List.mem_of_getElem? (i := 44) rfl)) wS e17 hS (by omega) hEL CH18.1 (g := (mkF m 19 #[.val (.ref a1), .val (.ref c1), .val (.ref d1)] [(.ref d1), (.ref a1)])) rfl (hb hby d6_19) (n := 16) (by decide) (by decide) (by decide) (by decide)
  refine own_go st19 ?_
  have K19 : Keep h0 h19 [a1] := Keep.ext K17 E19
  have le_19 : h17.size ≤ h19.size := E19.1
  have CH20 := CHr.trans CH18 cr19
  show ∃ t o, Steps p.tables e below (T19.setTop (mkF m 21 #[.val (.ref a1), .val (.ref c1), .val (.ref d1)] [(.ref a19), (.ref d1), (.ref a1)])) t ∧ _
  have F21 : Old Z n0 h19 := ((Old.wr F9 W17 ga).ext E19)
  have zl22 : n0 ≤ h19.size := by omega
  obtain ⟨_, _, ⟨T23, L23, k23, n23⟩, -, X23, ⟨Lc23, hQ23, l23, y23, z23⟩, st23⟩ := Jvm.LawKit.callS X19 hx (y := (⟨"java/util/Objects", "requireNonNull", "(Ljava/lang/Object;Ljava/lang/String;)Ljava/lang/Object;"⟩ : MethodName)) hown (mvT hZ (hw _ (List.mem_of_getElem? (i := 37) rfl))) (mvT hZ (hw _ (List.mem_of_getElem? (i := 38) rfl))) (mvT hZ (hw _ (List.mem_of_getElem? (i := 39) rfl))) (mvT hZ (hw _ (List.mem_of_getElem? (i := 40) rfl))) (by decide) (backOf (W := 1) (rmRq l Z a0 hw [] d1 a19 h19 n0 zl22 F21) hZ (hw _ (List.mem_of_getElem? (i := 40) rfl)) (hw _ (List.mem_of_getElem? (i := 39) rfl)) (by decide) (by decide)) (g := (mkF m 21 #[.val (.ref a1), .val (.ref c1), .val (.ref d1)] [(.ref a19), (.ref d1), (.ref a1)])) rfl (by rw [hml]; rfl) (argsL := [(.ref d1), (.ref a19)]) (rest := [(.ref a1)]) (lenOf pd_hb4046d0a rfl) rfl (by show 2 * 0 + _ ≤ _; exact Nat.le_of_eq rfl) (hb hby d6_21) (fun _ _ => ⟨rfl, e19, (by decide : 4 + 0 ≤ _), (by decide : 64 + 0 ≤ _)⟩)
  dsimp only [Pt.U, Pt.locs, Pt.cells, Pt.slots] at X23 l23 y23 z23 st23 hQ23
  subst l23 y23 z23
  obtain ⟨rfl, Nq23, e23⟩ := hQ23
  have N23 := Fr.app N17 Nq23
  refine own_go st23 ?_
  have F24 : Exa Z h19 d1 "java/lang/String" := (Exa.ext E19 (Exa.wr W17 (Exa.ext E7 P5)))
  obtain ⟨T25, X25, e25, st25⟩ := castY X23 hx hZ hown (hw _ (List.mem_of_getElem? (i := 41) rfl)) e23 (Ins.self F24) (g := (mkF m 24 #[.val (.ref a1), .val (.ref c1), .val (.ref d1)] [(.ref d1), (.ref a1)])) rfl rfl (hb hby d6_24)
  refine own_go st25 ?_
  have F26 : Exa Z h19 a1 "com/example/ipomoea/ipomoea/store/JobKey" := (Exa.ext E19 (Exa.wr W17 F14))
  have F27 : Fld Z h19 a1 "com/example/ipomoea/ipomoea/store/JobKey" "name" "Ljava/lang/String;" .null := (Fld.ext E19 (Fld.other W17 (Fld.ext E7 P3) (Or.inr (slot_ne (a0 := a0) (Or.inr (hw _ (List.mem_of_getElem? (i := 46) rfl))) (Or.inr (hw _ (List.mem_of_getElem? (i := 43) rfl))) (by decide) (t := (.object "java/lang/String")) (t' := (.object "java/lang/String")) (by decide) (by decide)))))
  have sf28 := Safe.exa (EL := own_EL) hZ.alike F26 (by decide) (by decide)
  obtain ⟨T29, h29, X29, e29, W29, st29⟩ := putF X25 hx hZ hown (host := "") (Or.inl (hw _ (List.mem_of_getElem? (i := 45) rfl))) Via.refl e25 F27 F26 (Or.inr ⟨(hw _ (List.mem_of_getElem? (i := 46) rfl)), rfl, hnm⟩) (hw _ (List.mem_of_getElem? (i := 1) rfl)) (ty := (.object "java/lang/String")) (by decide) rfl rfl (g := (mkF m 27 #[.val (.ref a1), .val (.ref c1), .val (.ref d1)] [(.ref d1), (.ref a1)])) rfl rfl (hb hby d6_27)
  refine own_go st29 ?_
  have CH30 := CHr.trans CH20 (CHr.wr W29 sf28 CH20.1)
  have le_29 : h19.size ≤ h29.size := Nat.le_of_eq W29.size.symm
  have K29 : Keep h0 h29 [a1] := Keep.wr K19 W29 (Or.inl (List.mem_of_getElem? (i := 0) rfl))
  have N29 := Fr.snoc X29 N23 ga
  have Fw29 := Fld.same W29 F27
  show ∃ t o, Steps p.tables e below (T29.setTop (mkF m 30 #[.val (.ref a1), .val (.ref c1), .val (.ref d1)] [])) t ∧ _
  have F31 : Exa Z h29 a1 "com/example/ipomoea/ipomoea/store/JobKey" := (Exa.wr W29 F26)
  have F32 : Fld Z h29 a1 "com/example/ipomoea/ipomoea/store/JobKey" "collection" "Ljava/lang/String;" (.ref c1) := (Fld.other W29 (Fld.ext E19 Fw17) (Or.inr (slot_ne (a0 := a0) (Or.inr (hw _ (List.mem_of_getElem? (i := 43) rfl))) (Or.inr (hw _ (List.mem_of_getElem? (i := 46) rfl))) (by decide) (t := (.object "java/lang/String")) (t' := (.object "java/lang/String")) (by decide) (by decide))))
  obtain ⟨fs, hr, hrun, hended, hW⟩ := Jvm.Stand.leaveW X29 hS (by rw [e29]; omega) (v := none) (fun _ => rfl)
  have CHz : CHr Z own_EL s.vm s.heap T29.vm T29.heap := by rw [hh, e29]; exact CHr.trans CH30 (CHv.at X29 hZ hEL CH30.1)
  refine ⟨_, _, ?_, hrun, hended, _, _, rfl, ?_, CHz, ⟨hW.1, hW.2.1, hW.2.2.1, hW.2.2.2.mono (by decide) (by decide)⟩⟩
  · exact X29.returnOut hx Bd.returns (hb hby d6_30) hr
  · show Q_rmJI Z _ _ _ h0 n0 _ T29.heap _
    rw [e29]
    exact ⟨rfl, N29, K29, F31, F32, Fw29⟩
theorem ef_rmEqN (m : MethodId) (x0 : Nat) : entryFrame m #[(.ref x0), .null] 3 = mkF m 0 #[.val (.ref x0), .val .null, .unset] [] := by first | (simp [entryFrame, mkF, argsToLocals, Value.category]; done) | rfl
theorem d8_0 : decode prog_27_method_5_code 0 = .ok (.aload_n 1, 1) := by decide +kernel
theorem d8_1 : decode prog_27_method_5_code 1 = .ok (.instanceof 18, 3) := by decide +kernel
theorem d8_4 : decode prog_27_method_5_code 4 = .ok (.ifCond .eq 40, 3) := by decide +kernel
theorem d8_44 : decode prog_27_method_5_code 44 = .ok (.iconst 0, 1) := by decide +kernel
theorem d8_45 : decode prog_27_method_5_code 45 = .ok (.ireturn, 1) := by decide +kernel
def Q_rmEqN (Z : State) (a1 : Nat) (h0 : Heap) (n0 : Nat) (v : Option Value) (h : Heap) (L : List Loc) : Prop := v = some (.int (0 : Int32)) ∧ Fr n0 L ∧ h = h0
set_option maxRecDepth 65536 in
set_option maxHeartbeats 40000000 in
theorem rmEqN (l : Launch) (Z : State) (a0 : Array Value) (hw : ∀ d ∈ tables_1, d.before a0 Z = true) (ws : List Jvm.Cond) (a1 : Nat) (h0 : Heap) (n0 : Nat) (Z0 : n0 ≤ h0.size) (OLD : Old Z n0 h0) :
    MetFree l (⟨"com/example/ipomoea/ipomoea/store/JobKey", "equals", "(Ljava/lang/Object;)Z"⟩ : MethodName) (head1 (Jvm.Cond.code (⟨"com/example/ipomoea/ipomoea/store/JobKey", "equals", "(Ljava/lang/Object;)Z"⟩ : MethodName) prog_27_method_5_code 3 (some .boolean) :: ws) ({ frames := 0, cells := 0, slots := 0, locals := 0 } : Room)) (fun a U => a = #[(.ref a1), .null] ∧ Z.Warmed39 U.vm ∧ U.heap = h0) (fun _ _ _ _ _ => True) (fun _ U o U' => ∃ v L, o = .returned v ∧ Q_rmEqN Z a1 h0 n0 v U'.heap L ∧ FrameEnd U o U' L ({ frames := 0, cells := 0, slots := 0, locals := 0 } : Room).cells ({ frames := 0, cells := 0, slots := 0, locals := 0 } : Room).slots) := by
  refine MetFree.of_bodySF (plainFor_of_name pn_com_example_ipomoea_ipomoea_store_JobKey) hisR ?_
  intro p e s m args below meth c s₁ Bd hml0 hP hK
  obtain ⟨rfl, hZ, hh⟩ := hP
  have hx := Bd.exec
  have hby := Bd.bytes
  have hml : c.maxLocals = 3 := hml0
  have hown : s.vm.findClass "com/example/ipomoea/ipomoea/store/JobKey" = some m.cls := findClass_of_methodNamed Bd.named
  have hnm := (name_of_methodNamed Bd.named Bd.method).1
  have X0 : Stand p l e ({ frames := 0, cells := 0, slots := 0, locals := 0 } : Room) s m #[(.ref a1), .null] below meth c s₁ [] 0 0 := Stand.of_body Bd
  have e0 : s₁.heap = h0 := by rw [← hh, Bd.state]; rfl
  have N0 := Fr.nil n0
  have pre0 : ∀ t, Steps p.tables e below (s₁.setTop (mkF m 0 #[.val (.ref a1), .val .null, .unset] [])) t → Steps p.tables e below (s₁.setTop (entryFrame m #[(.ref a1), .null] 3)) t := fun t k => castTop (ef_rmEqN m a1) k
  have oz := OLD.1
  refine own_go (B := s₁.setTop (mkF m 0 #[.val (.ref a1), .val .null, .unset] [])) pre0 ?_
  show ∃ t o, Steps p.tables e below (s₁.setTop (mkF m 0 #[.val (.ref a1), .val .null, .unset] [])) t ∧ _
  refine own_go (fun _ => XS.aloadN X0.here hx rfl (hb hby d8_0) rfl rfl) ?_
  refine own_go (fun _ => X0.instanceofNull hx (g := (mkF m 1 #[.val (.ref a1), .val .null, .unset] [.null])) rfl rfl (hb hby d8_1) _) ?_
  show ∃ t o, Steps p.tables e below (s₁.setTop (mkF m 4 #[.val (.ref a1), .val .null, .unset] [(.int (0 : Int32))])) t ∧ _
  refine own_go (fun _ => XS.ifYes X0.here hx rfl (pc0 := 4) (pc' := 44) rfl (hb hby d8_4) rfl ((if0 _ _).trans (teq (by decide : (0 : Int32) = (0 : Int32))).1) (by decide) (by decide)) ?_
  refine own_go (fun _ => XS.iconst X0.here hx rfl (hb hby d8_44)) ?_
  show ∃ t o, Steps p.tables e below (s₁.setTop (mkF m 45 #[.val (.ref a1), .val .null, .unset] [(.int (0 : Int32))])) t ∧ _
  obtain ⟨fs, hr, hrun, hended, hW, hsame⟩ := X0.leave (v := some (.int (0 : Int32))) (fun h => by rw [Bd.returns] at h; cases h)
  refine ⟨_, _, ?_, hrun, hended, _, _, rfl, ?_, ⟨_, rfl⟩, hW, hsame.mono (by decide) (by decide)⟩
  · exact retN X0 hx (t := .boolean) Bd.returns (by simp) (hb hby d8_45) hr
  · show Q_rmEqN Z _ h0 n0 _ s₁.heap _
    rw [e0]
    exact ⟨rfl, N0, rfl⟩
theorem ef_rmEqS (m : MethodId) (x0 : Nat) (x1 : Nat) : entryFrame m #[(.ref x0), (.ref x1)] 3 = mkF m 0 #[.val (.ref x0), .val (.ref x1), .unset] [] := by first | (simp [entryFrame, mkF, argsToLocals, Value.category]; done) | rfl
def Q_rmEqS (Z : State) (a1 : Nat) (a2 : Nat) (h0 : Heap) (n0 : Nat) (v : Option Value) (h : Heap) (L : List Loc) : Prop := v = some (.int (0 : Int32)) ∧ Fr n0 L ∧ h = h0
set_option maxRecDepth 65536 in
set_option maxHeartbeats 40000000 in
theorem rmEqS (l : Launch) (Z : State) (a0 : Array Value) (hw : ∀ d ∈ tables_1, d.before a0 Z = true) (ws : List Jvm.Cond) (a1 : Nat) (a2 : Nat) (h0 : Heap) (n0 : Nat) (Z0 : n0 ≤ h0.size) (P1 : Exa Z h0 a2 "java/lang/String") (OLD : Old Z n0 h0) :
    MetFree l (⟨"com/example/ipomoea/ipomoea/store/JobKey", "equals", "(Ljava/lang/Object;)Z"⟩ : MethodName) (head1 (Jvm.Cond.code (⟨"com/example/ipomoea/ipomoea/store/JobKey", "equals", "(Ljava/lang/Object;)Z"⟩ : MethodName) prog_27_method_5_code 3 (some .boolean) :: ws) ({ frames := 0, cells := 0, slots := 0, locals := 0 } : Room)) (fun a U => a = #[(.ref a1), (.ref a2)] ∧ Z.Warmed39 U.vm ∧ U.heap = h0) (fun _ _ _ _ _ => True) (fun _ U o U' => ∃ v L, o = .returned v ∧ Q_rmEqS Z a1 a2 h0 n0 v U'.heap L ∧ FrameEnd U o U' L ({ frames := 0, cells := 0, slots := 0, locals := 0 } : Room).cells ({ frames := 0, cells := 0, slots := 0, locals := 0 } : Room).slots) := by
  refine MetFree.of_bodySF (plainFor_of_name pn_com_example_ipomoea_ipomoea_store_JobKey) hisR ?_
  intro p e s m args below meth c s₁ Bd hml0 hP hK
  obtain ⟨rfl, hZ, hh⟩ := hP
  have hx := Bd.exec
  have hby := Bd.bytes
  have hml : c.maxLocals = 3 := hml0
  have hown : s.vm.findClass "com/example/ipomoea/ipomoea/store/JobKey" = some m.cls := findClass_of_methodNamed Bd.named
  have hnm := (name_of_methodNamed Bd.named Bd.method).1
  have X0 : Stand p l e ({ frames := 0, cells := 0, slots := 0, locals := 0 } : Room) s m #[(.ref a1), (.ref a2)] below meth c s₁ [] 0 0 := Stand.of_body Bd
  have e0 : s₁.heap = h0 := by rw [← hh, Bd.state]; rfl
  have N0 := Fr.nil n0
  have pre0 : ∀ t, Steps p.tables e below (s₁.setTop (mkF m 0 #[.val (.ref a1), .val (.ref a2), .unset] [])) t → Steps p.tables e below (s₁.setTop (entryFrame m #[(.ref a1), (.ref a2)] 3)) t := fun t k => castTop (ef_rmEqS m a1 a2) k
  have oz := OLD.1
  have lt_a2 : a2 < h0.size := P1.lt
  refine own_go (B := s₁.setTop (mkF m 0 #[.val (.ref a1), .val (.ref a2), .unset] [])) pre0 ?_
  show ∃ t o, Steps p.tables e below (s₁.setTop (mkF m 0 #[.val (.ref a1), .val (.ref a2), .unset] [])) t ∧ _
  refine own_go (fun _ => XS.aloadN X0.here hx rfl (hb hby d8_0) rfl rfl) ?_
  obtain ⟨T2, X2, e2, st2⟩ := instNo X0 hx hZ hown (hw _ (List.mem_of_getElem? (i := 52) rfl)) e0 P1 (own_noins2 (hw _ (List.mem_of_getElem? (i := 53) rfl)) (hw _ (List.mem_of_getElem? (i := 54) rfl)) (hw _ (List.mem_of_getElem? (i := 1) rfl)) (by decide) (by decide)) (g := (mkF m 1 #[.val (.ref a1), .val (.ref a2), .unset] [(.ref a2)])) rfl rfl (hb hby d8_1)
  refine own_go st2 ?_
  show ∃ t o, Steps p.tables e below (T2.setTop (mkF m 4 #[.val (.ref a1), .val (.ref a2), .unset] [(.int (0 : Int32))])) t ∧ _
  refine own_go (fun _ => XS.ifYes X2.here hx rfl (pc0 := 4) (pc' := 44) rfl (hb hby d8_4) rfl ((if0 _ _).trans (teq (by decide : (0 : Int32) = (0 : Int32))).1) (by decide) (by decide)) ?_
  refine own_go (fun _ => XS.iconst X2.here hx rfl (hb hby d8_44)) ?_
  show ∃ t o, Steps p.tables e below (T2.setTop (mkF m 45 #[.val (.ref a1), .val (.ref a2), .unset] [(.int (0 : Int32))])) t ∧ _
  obtain ⟨fs, hr, hrun, hended, hW, hsame⟩ := X2.leave (v := some (.int (0 : Int32))) (fun h => by rw [Bd.returns] at h; cases h)
  refine ⟨_, _, ?_, hrun, hended, _, _, rfl, ?_, ⟨_, rfl⟩, hW, hsame.mono (by decide) (by decide)⟩
  · exact retN X2 hx (t := .boolean) Bd.returns (by simp) (hb hby d8_45) hr
  · show Q_rmEqS Z _ _ h0 n0 _ T2.heap _
    rw [e2]
    exact ⟨rfl, N0, rfl⟩
theorem ef_rmEqK (m : MethodId) (x0 : Nat) (x1 : Nat) : entryFrame m #[(.ref x0), (.ref x1)] 3 = mkF m 0 #[.val (.ref x0), .val (.ref x1), .unset] [] := by first | (simp [entryFrame, mkF, argsToLocals, Value.category]; done) | rfl
theorem d8_7 : decode prog_27_method_5_code 7 = .ok (.aload_n 1, 1) := by decide +kernel
theorem d8_8 : decode prog_27_method_5_code 8 = .ok (.checkcast 18, 3) := by decide +kernel
theorem d8_11 : decode prog_27_method_5_code 11 = .ok (.astore_n 2, 1) := by decide +kernel
theorem d8_12 : decode prog_27_method_5_code 12 = .ok (.aload_n 2, 1) := by decide +kernel
theorem d8_13 : decode prog_27_method_5_code 13 = .ok (.getfield 17, 3) := by decide +kernel
theorem d8_16 : decode prog_27_method_5_code 16 = .ok (.aload_n 0, 1) := by decide +kernel
theorem d8_17 : decode prog_27_method_5_code 17 = .ok (.getfield 17, 3) := by decide +kernel
theorem d8_20 : decode prog_27_method_5_code 20 = .ok (.invokevirtual 36, 3) := by decide +kernel
theorem pd__28Ljava_2flang_2fObject_3b_29Z : parseMethodDescriptor "(Ljava/lang/Object;)Z" = some ⟨[(.object "java/lang/Object")], some .boolean⟩ := by decide +kernel
theorem d8_23 : decode prog_27_method_5_code 23 = .ok (.ifCond .eq 21, 3) := by decide +kernel
theorem d8_26 : decode prog_27_method_5_code 26 = .ok (.aload_n 2, 1) := by decide +kernel
theorem d8_27 : decode prog_27_method_5_code 27 = .ok (.getfield 24, 3) := by decide +kernel
theorem d8_30 : decode prog_27_method_5_code 30 = .ok (.aload_n 0, 1) := by decide +kernel
theorem d8_31 : decode prog_27_method_5_code 31 = .ok (.getfield 24, 3) := by decide +kernel
theorem d8_34 : decode prog_27_method_5_code 34 = .ok (.invokevirtual 36, 3) := by decide +kernel
theorem d8_37 : decode prog_27_method_5_code 37 = .ok (.ifCond .eq 7, 3) := by decide +kernel
theorem d8_40 : decode prog_27_method_5_code 40 = .ok (.iconst 1, 1) := by decide +kernel
theorem d8_41 : decode prog_27_method_5_code 41 = .ok (.goto 4, 3) := by decide +kernel
def Q_rmEqK (Z : State) (a1 : Nat) (a2 : Nat) (c1 : Nat) (d1 : Nat) (c2 : Nat) (d2 : Nat) (u1 : Int32) (u2 : Int32) (v1 : Int32) (v2 : Int32) (zc : Int32) (h0 : Heap) (n0 : Nat) (v : Option Value) (h : Heap) (L : List Loc) : Prop := ∃ (r1 : Int32), v = some (.int r1) ∧ Fr n0 L ∧ h = h0 ∧ ((r1 = (1 : Int32) ∧ own_cs v1 = own_cs u1 ∧ own_cs v2 = own_cs u2) ∨ (r1 = (0 : Int32) ∧ ¬ (own_cs v1 = own_cs u1 ∧ own_cs v2 = own_cs u2)))
set_option maxRecDepth 65536 in
set_option maxHeartbeats 40000000 in
theorem rmEqK (l : Launch) (Z : State) (a0 : Array Value) (hw : ∀ d ∈ tables_1, d.before a0 Z = true) (ws : List Jvm.Cond) (a1 : Nat) (a2 : Nat) (c1 : Nat) (d1 : Nat) (c2 : Nat) (d2 : Nat) (u1 : Int32) (u2 : Int32) (v1 : Int32) (v2 : Int32) (zc : Int32) (h0 : Heap) (n0 : Nat) (Z0 : n0 ≤ h0.size) (P1 : Exa Z h0 a1 "com/example/ipomoea/ipomoea/store/JobKey") (P2 : Exa Z h0 a2 "com/example/ipomoea/ipomoea/store/JobKey") (P3 : Fld Z h0 a1 "com/example/ipomoea/ipomoea/store/JobKey" "collection" "Ljava/lang/String;" (.ref c1)) (P4 : Fld Z h0 a1 "com/example/ipomoea/ipomoea/store/JobKey" "name" "Ljava/lang/String;" (.ref d1)) (P5 : Fld Z h0 a2 "com/example/ipomoea/ipomoea/store/JobKey" "collection" "Ljava/lang/String;" (.ref c2)) (P6 : Fld Z h0 a2 "com/example/ipomoea/ipomoea/store/JobKey" "name" "Ljava/lang/String;" (.ref d2)) (P7 : own_Str Z h0 c1 (own_cs u1)) (P8 : own_Str Z h0 d1 (own_cs u2)) (P9 : own_Str Z h0 c2 (own_cs v1)) (P10 : own_Str Z h0 d2 (own_cs v2)) (OLD : Old Z n0 h0) (P11 : Sta Z Z.heap "java/lang/String" "COMPACT_STRINGS" "Z" (.int zc)) (hzc : ¬ (zc = (0 : Int32))) :
    MetFree l (⟨"com/example/ipomoea/ipomoea/store/JobKey", "equals", "(Ljava/lang/Object;)Z"⟩ : MethodName) (head1 (Jvm.Cond.code (⟨"com/example/ipomoea/ipomoea/store/JobKey", "equals", "(Ljava/lang/Object;)Z"⟩ : MethodName) prog_27_method_5_code 3 (some .boolean) :: ws) ({ frames := 2, cells := 0, slots := 0, locals := 28 } : Room)) (fun a U => a = #[(.ref a1), (.ref a2)] ∧ Z.Warmed39 U.vm ∧ U.heap = h0) (fun _ _ _ _ _ => True) (fun _ U o U' => ∃ v L, o = .returned v ∧ Q_rmEqK Z a1 a2 c1 d1 c2 d2 u1 u2 v1 v2 zc h0 n0 v U'.heap L ∧ FrameEnd U o U' L ({ frames := 2, cells := 0, slots := 0, locals := 28 } : Room).cells ({ frames := 2, cells := 0, slots := 0, locals := 28 } : Room).slots) := by
  refine MetFree.of_bodySF (plainFor_of_name pn_com_example_ipomoea_ipomoea_store_JobKey) hisR ?_
  intro p e s m args below meth c s₁ Bd hml0 hP hK
  obtain ⟨rfl, hZ, hh⟩ := hP
  have hx := Bd.exec
  have hby := Bd.bytes
  have hml : c.maxLocals = 3 := hml0
  have hown : s.vm.findClass "com/example/ipomoea/ipomoea/store/JobKey" = some m.cls := findClass_of_methodNamed Bd.named
  have hnm := (name_of_methodNamed Bd.named Bd.method).1
  have X0 : Stand p l e ({ frames := 2, cells := 0, slots := 0, locals := 28 } : Room) s m #[(.ref a1), (.ref a2)] below meth c s₁ [] 0 0 := Stand.of_body Bd
  have e0 : s₁.heap = h0 := by rw [← hh, Bd.state]; rfl
  have N0 := Fr.nil n0
  have pre0 : ∀ t, Steps p.tables e below (s₁.setTop (mkF m 0 #[.val (.ref a1), .val (.ref a2), .unset] [])) t → Steps p.tables e below (s₁.setTop (entryFrame m #[(.ref a1), (.ref a2)] 3)) t := fun t k => castTop (ef_rmEqK m a1 a2) k
  have oz := OLD.1
  have lt_a1 : a1 < h0.size := P1.lt
  have lt_a2 : a2 < h0.size := P2.lt
  refine own_go (B := s₁.setTop (mkF m 0 #[.val (.ref a1), .val (.ref a2), .unset] [])) pre0 ?_
  show ∃ t o, Steps p.tables e below (s₁.setTop (mkF m 0 #[.val (.ref a1), .val (.ref a2), .unset] [])) t ∧ _
  refine own_go (fun _ => XS.aloadN X0.here hx rfl (hb hby d8_0) rfl rfl) ?_
  obtain ⟨T12, X12, e12, st12⟩ := instY X0 hx hZ hown (hw _ (List.mem_of_getElem? (i := 52) rfl)) e0 (Ins.self P2) (g := (mkF m 1 #[.val (.ref a1), .val (.ref a2), .unset] [(.ref a2)])) rfl rfl (hb hby d8_1)
  refine own_go st12 ?_
  show ∃ t o, Steps p.tables e below (T12.setTop (mkF m 4 #[.val (.ref a1), .val (.ref a2), .unset] [(.int (1 : Int32))])) t ∧ _
  refine own_go (fun _ => XS.ifNo X12.here hx rfl (hb hby d8_4) rfl ((if0 _ _).trans (feq (by decide : ¬ ((1 : Int32) = (0 : Int32)))).1)) ?_
  refine own_go (fun _ => XS.aloadN X12.here hx rfl (hb hby d8_7) rfl rfl) ?_
  obtain ⟨T13, X13, e13, st13⟩ := castY X12 hx hZ hown (hw _ (List.mem_of_getElem? (i := 52) rfl)) e12 (Ins.self P2) (g := (mkF m 8 #[.val (.ref a1), .val (.ref a2), .unset] [(.ref a2)])) rfl rfl (hb hby d8_8)
  refine own_go st13 ?_
  show ∃ t o, Steps p.tables e below (T13.setTop (mkF m 11 #[.val (.ref a1), .val (.ref a2), .unset] [(.ref a2)])) t ∧ _
  refine own_go (fun _ => XS.astoreN X13.here hx rfl (hb hby d8_11) rfl rfl (l' := #[.val (.ref a1), .val (.ref a2), .val (.ref a2)]) rfl) ?_
  refine own_go (fun _ => XS.aloadN X13.here hx rfl (hb hby d8_12) rfl rfl) ?_
  obtain ⟨T14, X14, e14, st14⟩ := getF X13 hx hZ hown (host := "") (Or.inl (hw _ (List.mem_of_getElem? (i := 42) rfl))) Via.refl e13 P5 (g := (mkF m 13 #[.val (.ref a1), .val (.ref a2), .val (.ref a2)] [(.ref a2)])) rfl rfl (hb hby d8_13)
  refine own_go st14 ?_
  show ∃ t o, Steps p.tables e below (T14.setTop (mkF m 16 #[.val (.ref a1), .val (.ref a2), .val (.ref a2)] [(.ref c2)])) t ∧ _
  refine own_go (fun _ => XS.aloadN X14.here hx rfl (hb hby d8_16) rfl rfl) ?_
  obtain ⟨T15, X15, e15, st15⟩ := getF X14 hx hZ hown (host := "") (Or.inl (hw _ (List.mem_of_getElem? (i := 42) rfl))) Via.refl e14 P3 (g := (mkF m 17 #[.val (.ref a1), .val (.ref a2), .val (.ref a2)] [(.ref a1), (.ref c2)])) rfl rfl (hb hby d8_17)
  refine own_go st15 ?_
  show ∃ t o, Steps p.tables e below (T15.setTop (mkF m 20 #[.val (.ref a1), .val (.ref a2), .val (.ref a2)] [(.ref c1), (.ref c2)])) t ∧ _
  have heq : ∀ d ∈ StrChars.Road.wordsEq, d.before a0 Z = true := fun d hd => hw d ((by decide +kernel : ∀ d ∈ StrChars.Road.wordsEq, d ∈ tables_1) d hd)
  obtain ⟨tb16_x, kb16_x, N216_x, vs16_x, E16_x, V16_x, C16_x, A16_x, D16_x⟩ := id P9
  obtain ⟨tb16_y, kb16_y, N216_y, vs16_y, E16_y, V16_y, C16_y, A16_y, D16_y⟩ := id P7
  obtain ⟨cq17, kq17, q17a, q17b, q17c⟩ := isOf hZ e15 E16_x
  obtain ⟨_, _, ⟨T17, L17, k17, n17⟩, -, X17, ⟨Lc17, hQ17, l17, y17, z17⟩, st17⟩ := X15.virtualBack hx (y := (⟨"java/lang/String", "equals", "(Ljava/lang/Object;)Z"⟩ : MethodName)) (z := (⟨"java/lang/String", "equals", "(Ljava/lang/Object;)Z"⟩ : MethodName)) hown (mvT hZ (hw _ (List.mem_of_getElem? (i := 59) rfl))) (mvT hZ (hw _ (List.mem_of_getElem? (i := 60) rfl))) (notFace_of_selects (args := #[]) (mvT hZ (hw _ (List.mem_of_getElem? (i := 62) rfl)))) (mvT hZ (hw _ (List.mem_of_getElem? (i := 62) rfl))) (mvT hZ (hw _ (List.mem_of_getElem? (i := 61) rfl))) (by decide) (StrChars.Road.eqW (W := 0) hZ heq (kI := 4) (hw _ (List.mem_of_getElem? (i := 11) rfl)) E16_x V16_x C16_x A16_x D16_x (own_up _ (own_csr _)) (own_csl _) E16_y V16_y C16_y A16_y D16_y (own_up _ (own_csr _)) (own_csl _) (Sta.ext OLD.2 P11) hzc (by decide) (by decide)) q17a q17c (g := (mkF m 20 #[.val (.ref a1), .val (.ref a2), .val (.ref a2)] [(.ref c1), (.ref c2)])) rfl (by rw [hml]; rfl) (Steps.refl _) (argsL := [(.ref c1)]) (rest := []) (lenOf pd__28Ljava_2flang_2fObject_3b_29Z rfl) rfl (by show 2 * 0 + _ ≤ _; exact Nat.le_of_eq rfl) (hb hby d8_20) (fun _ _ => ⟨rfl, e15, (by decide : 0 + 0 ≤ _), (by decide : 0 + 0 ≤ _)⟩)
  dsimp only [Pt.U, Pt.locs, Pt.cells, Pt.slots] at X17 l17 y17 z17 st17 hQ17
  subst l17 y17 z17
  obtain ⟨hv17, hL17, e17⟩ := hQ17
  subst hL17
  have N17 := Fr.app N0 (Fr.nil n0)
  rcases hv17 with ⟨rfl, hq17⟩ | ⟨rfl, hq17⟩
  · refine own_goT st17 ?_
    show ∃ t o, Steps p.tables e below (T17.setTop (mkF m 23 #[.val (.ref a1), .val (.ref a2), .val (.ref a2)] [(.int (1 : Int32))])) t ∧ _
    show ∃ t o, Steps p.tables e below (T17.setTop (mkF m 23 #[.val (.ref a1), .val (.ref a2), .val (.ref a2)] [(.int (1 : Int32))])) t ∧ _
    refine own_go (fun _ => XS.ifNo X17.here hx rfl (hb hby d8_23) rfl ((if0 _ _).trans (feq (by decide : ¬ ((1 : Int32) = (0 : Int32)))).1)) ?_
    refine own_go (fun _ => XS.aloadN X17.here hx rfl (hb hby d8_26) rfl rfl) ?_
    obtain ⟨T18, X18, e18, st18⟩ := getF X17 hx hZ hown (host := "") (Or.inl (hw _ (List.mem_of_getElem? (i := 45) rfl))) Via.refl e17 P6 (g := (mkF m 27 #[.val (.ref a1), .val (.ref a2), .val (.ref a2)] [(.ref a2)])) rfl rfl (hb hby d8_27)
    refine own_go st18 ?_
    show ∃ t o, Steps p.tables e below (T18.setTop (mkF m 30 #[.val (.ref a1), .val (.ref a2), .val (.ref a2)] [(.ref d2)])) t ∧ _
    refine own_go (fun _ => XS.aloadN X18.here hx rfl (hb hby d8_30) rfl rfl) ?_
    obtain ⟨T19, X19, e19, st19⟩ := getF X18 hx hZ hown (host := "") (Or.inl (hw _ (List.mem_of_getElem? (i := 45) rfl))) Via.refl e18 P4 (g := (mkF m 31 #[.val (.ref a1), .val (.ref a2), .val (.ref a2)] [(.ref a1), (.ref d2)])) rfl rfl (hb hby d8_31)
    refine own_go st19 ?_
    show ∃ t o, Steps p.tables e below (T19.setTop (mkF m 34 #[.val (.ref a1), .val (.ref a2), .val (.ref a2)] [(.ref d1), (.ref d2)])) t ∧ _
    obtain ⟨tb20_x, kb20_x, N220_x, vs20_x, E20_x, V20_x, C20_x, A20_x, D20_x⟩ := id P10
    obtain ⟨tb20_y, kb20_y, N220_y, vs20_y, E20_y, V20_y, C20_y, A20_y, D20_y⟩ := id P8
    obtain ⟨cq21, kq21, q21a, q21b, q21c⟩ := isOf hZ e19 E20_x
    obtain ⟨_, _, ⟨T21, L21, k21, n21⟩, -, X21, ⟨Lc21, hQ21, l21, y21, z21⟩, st21⟩ := X19.virtualBack hx (y := (⟨"java/lang/String", "equals", "(Ljava/lang/Object;)Z"⟩ : MethodName)) (z := (⟨"java/lang/String", "equals", "(Ljava/lang/Object;)Z"⟩ : MethodName)) hown (mvT hZ (hw _ (List.mem_of_getElem? (i := 59) rfl))) (mvT hZ (hw _ (List.mem_of_getElem? (i := 60) rfl))) (notFace_of_selects (args := #[]) (mvT hZ (hw _ (List.mem_of_getElem? (i := 62) rfl)))) (mvT hZ (hw _ (List.mem_of_getElem? (i := 62) rfl))) (mvT hZ (hw _ (List.mem_of_getElem? (i := 61) rfl))) (by decide) (StrChars.Road.eqW (W := 0) hZ heq (kI := 4) (hw _ (List.mem_of_getElem? (i := 11) rfl)) E20_x V20_x C20_x A20_x D20_x (own_up _ (own_csr _)) (own_csl _) E20_y V20_y C20_y A20_y D20_y (own_up _ (own_csr _)) (own_csl _) (Sta.ext OLD.2 P11) hzc (by decide) (by decide)) q21a q21c (g := (mkF m 34 #[.val (.ref a1), .val (.ref a2), .val (.ref a2)] [(.ref d1), (.ref d2)])) rfl (by rw [hml]; rfl) (Steps.refl _) (argsL := [(.ref d1)]) (rest := []) (lenOf pd__28Ljava_2flang_2fObject_3b_29Z rfl) rfl (by show 2 * 0 + _ ≤ _; exact Nat.le_of_eq rfl) (hb hby d8_34) (fun _ _ => ⟨rfl, e19, (by decide : 0 + 0 ≤ _), (by decide : 0 + 0 ≤ _)⟩)
    dsimp only [Pt.U, Pt.locs, Pt.cells, Pt.slots] at X21 l21 y21 z21 st21 hQ21
    subst l21 y21 z21
    obtain ⟨hv21, hL21, e21⟩ := hQ21
    subst hL21
    have N21 := Fr.app N17 (Fr.nil n0)
    rcases hv21 with ⟨rfl, hq21⟩ | ⟨rfl, hq21⟩
    · refine own_goT st21 ?_
      show ∃ t o, Steps p.tables e below (T21.setTop (mkF m 37 #[.val (.ref a1), .val (.ref a2), .val (.ref a2)] [(.int (1 : Int32))])) t ∧ _
      show ∃ t o, Steps p.tables e below (T21.setTop (mkF m 37 #[.val (.ref a1), .val (.ref a2), .val (.ref a2)] [(.int (1 : Int32))])) t ∧ _
      refine own_go (fun _ => XS.ifNo X21.here hx rfl (hb hby d8_37) rfl ((if0 _ _).trans (feq (by decide : ¬ ((1 : Int32) = (0 : Int32)))).1)) ?_
      refine own_go (fun _ => XS.iconst X21.here hx rfl (hb hby d8_40)) ?_
      refine own_go (fun _ => XS.goto X21.here hx rfl (pc0 := 41) (pc' := 45) rfl (hb hby d8_41) (by decide) (by decide)) ?_
      show ∃ t o, Steps p.tables e below (T21.setTop (mkF m 45 #[.val (.ref a1), .val (.ref a2), .val (.ref a2)] [(.int (1 : Int32))])) t ∧ _
      obtain ⟨fs, hr, hrun, hended, hW, hsame⟩ := X21.leave (v := some (.int (1 : Int32))) (fun h => by rw [Bd.returns] at h; cases h)
      refine ⟨_, _, ?_, hrun, hended, _, _, rfl, ?_, ⟨_, rfl⟩, hW, hsame.mono (by decide) (by decide)⟩
      · exact retN X21 hx (t := .boolean) Bd.returns (by simp) (hb hby d8_45) hr
      · show Q_rmEqK Z _ _ _ _ _ _ _ _ _ _ _ h0 n0 _ T21.heap _
        rw [e21]
        exact ⟨(1 : Int32), rfl, N21, rfl, (Or.inl ⟨rfl, hq17, hq21⟩)⟩
    · refine own_goT st21 ?_
      show ∃ t o, Steps p.tables e below (T21.setTop (mkF m 37 #[.val (.ref a1), .val (.ref a2), .val (.ref a2)] [(.int (0 : Int32))])) t ∧ _
      show ∃ t o, Steps p.tables e below (T21.setTop (mkF m 37 #[.val (.ref a1), .val (.ref a2), .val (.ref a2)] [(.int (0 : Int32))])) t ∧ _
      refine own_go (fun _ => XS.ifYes X21.here hx rfl (pc0 := 37) (pc' := 44) rfl (hb hby d8_37) rfl ((if0 _ _).trans (teq (by decide : (0 : Int32) = (0 : Int32))).1) (by decide) (by decide)) ?_
      refine own_go (fun _ => XS.iconst X21.here hx rfl (hb hby d8_44)) ?_
      show ∃ t o, Steps p.tables e below (T21.setTop (mkF m 45 #[.val (.ref a1), .val (.ref a2), .val (.ref a2)] [(.int (0 : Int32))])) t ∧ _
      obtain ⟨fs, hr, hrun, hended, hW, hsame⟩ := X21.leave (v := some (.int (0 : Int32))) (fun h => by rw [Bd.returns] at h; cases h)
      refine ⟨_, _, ?_, hrun, hended, _, _, rfl, ?_, ⟨_, rfl⟩, hW, hsame.mono (by decide) (by decide)⟩
      · exact retN X21 hx (t := .boolean) Bd.returns (by simp) (hb hby d8_45) hr
      · show Q_rmEqK Z _ _ _ _ _ _ _ _ _ _ _ h0 n0 _ T21.heap _
        rw [e21]
        exact ⟨(0 : Int32), rfl, N21, rfl, (Or.inr ⟨rfl, fun q => hq21 q.2⟩)⟩
  · refine own_goT st17 ?_
    show ∃ t o, Steps p.tables e below (T17.setTop (mkF m 23 #[.val (.ref a1), .val (.ref a2), .val (.ref a2)] [(.int (0 : Int32))])) t ∧ _
    show ∃ t o, Steps p.tables e below (T17.setTop (mkF m 23 #[.val (.ref a1), .val (.ref a2), .val (.ref a2)] [(.int (0 : Int32))])) t ∧ _
    refine own_go (fun _ => XS.ifYes X17.here hx rfl (pc0 := 23) (pc' := 44) rfl (hb hby d8_23) rfl ((if0 _ _).trans (teq (by decide : (0 : Int32) = (0 : Int32))).1) (by decide) (by decide)) ?_
    refine own_go (fun _ => XS.iconst X17.here hx rfl (hb hby d8_44)) ?_
    show ∃ t o, Steps p.tables e below (T17.setTop (mkF m 45 #[.val (.ref a1), .val (.ref a2), .val (.ref a2)] [(.int (0 : Int32))])) t ∧ _
    obtain ⟨fs, hr, hrun, hended, hW, hsame⟩ := X17.leave (v := some (.int (0 : Int32))) (fun h => by rw [Bd.returns] at h; cases h)
    refine ⟨_, _, ?_, hrun, hended, _, _, rfl, ?_, ⟨_, rfl⟩, hW, hsame.mono (by decide) (by decide)⟩
    · exact retN X17 hx (t := .boolean) Bd.returns (by simp) (hb hby d8_45) hr
    · show Q_rmEqK Z _ _ _ _ _ _ _ _ _ _ _ h0 n0 _ T17.heap _
      rw [e17]
      exact ⟨(0 : Int32), rfl, N17, rfl, (Or.inr ⟨rfl, fun q => hq17 q.1⟩)⟩
theorem own_sm {a1 a2 : Int32} : own_cs a1 = own_cs a2 ↔ own_len a1 = own_len a2 ∧ (¬ own_len a1 < 1 → (a1 &&& (255 : Int32)) = (a2 &&& (255 : Int32))) ∧ (¬ own_len a1 < 2 → (((a1.toUInt32 >>> ((8 : Int32) &&& 31).toUInt32).toInt32) &&& (255 : Int32)) = (((a2.toUInt32 >>> ((8 : Int32) &&& 31).toUInt32).toInt32) &&& (255 : Int32))) := by
  have ia : own_ca a1 = own_ca a2 ↔ (a1 &&& (255 : Int32)) = (a2 &&& (255 : Int32)) := ⟨fun h => own_cinj h, fun h => by unfold own_ca; rw [h]⟩
  have ib : own_cb a1 = own_cb a2 ↔ (((a1.toUInt32 >>> ((8 : Int32) &&& 31).toUInt32).toInt32) &&& (255 : Int32)) = (((a2.toUInt32 >>> ((8 : Int32) &&& 31).toUInt32).toInt32) &&& (255 : Int32)) := ⟨fun h => own_cinj h, fun h => by unfold own_cb; rw [h]⟩
  have l1 := own_lenr a1
  have l2 := own_lenr a2
  rcases l1 with l1 | l1 | l1 <;> rcases l2 with l2 | l2 | l2 <;> simp [own_cs, l1, l2, ia, ib]
theorem own_smY {a1 a2 : Int32} (h : own_cs a1 = own_cs a2) : (1 : Int32) = 1 ∧ own_cs a1 = own_cs a2 := ⟨rfl, h⟩
theorem ef_rmSame (m : MethodId) (x0 : Int32) (x1 : Int32) : entryFrame m #[(.int x0), (.int x1)] 3 = mkF m 0 #[.val (.int x0), .val (.int x1), .unset] [] := by first | (simp [entryFrame, mkF, argsToLocals, Value.category]; done) | rfl
theorem d9_0 : decode method_5_code 0 = .ok (.iload_n 0, 1) := by decide +kernel
theorem d9_1 : decode method_5_code 1 = .ok (.invokestatic 26, 3) := by decide +kernel
theorem d9_4 : decode method_5_code 4 = .ok (.istore_n 2, 1) := by decide +kernel
theorem d9_5 : decode method_5_code 5 = .ok (.iload_n 2, 1) := by decide +kernel
theorem d9_6 : decode method_5_code 6 = .ok (.iload_n 1, 1) := by decide +kernel
theorem d9_7 : decode method_5_code 7 = .ok (.invokestatic 26, 3) := by decide +kernel
theorem d9_10 : decode method_5_code 10 = .ok (.if_icmp .eq 5, 3) := by decide +kernel
theorem d9_15 : decode method_5_code 15 = .ok (.iload_n 2, 1) := by decide +kernel
theorem d9_16 : decode method_5_code 16 = .ok (.iconst 1, 1) := by decide +kernel
theorem d9_17 : decode method_5_code 17 = .ok (.if_icmp .lt 18, 3) := by decide +kernel
theorem d9_35 : decode method_5_code 35 = .ok (.iload_n 2, 1) := by decide +kernel
theorem d9_36 : decode method_5_code 36 = .ok (.iconst 2, 1) := by decide +kernel
theorem d9_37 : decode method_5_code 37 = .ok (.if_icmp .lt 24, 3) := by decide +kernel
theorem d9_61 : decode method_5_code 61 = .ok (.iconst 1, 1) := by decide +kernel
theorem d9_62 : decode method_5_code 62 = .ok (.ireturn, 1) := by decide +kernel
theorem d9_40 : decode method_5_code 40 = .ok (.iload_n 0, 1) := by decide +kernel
theorem d9_41 : decode method_5_code 41 = .ok (.bipush 8, 2) := by decide +kernel
theorem d9_43 : decode method_5_code 43 = .ok (.iushr, 1) := by decide +kernel
theorem d9_44 : decode method_5_code 44 = .ok (.sipush 255, 3) := by decide +kernel
theorem d9_47 : decode method_5_code 47 = .ok (.iand, 1) := by decide +kernel
theorem d9_48 : decode method_5_code 48 = .ok (.iload_n 1, 1) := by decide +kernel
theorem d9_49 : decode method_5_code 49 = .ok (.bipush 8, 2) := by decide +kernel
theorem d9_51 : decode method_5_code 51 = .ok (.iushr, 1) := by decide +kernel
theorem d9_52 : decode method_5_code 52 = .ok (.sipush 255, 3) := by decide +kernel
theorem d9_55 : decode method_5_code 55 = .ok (.iand, 1) := by decide +kernel
theorem d9_56 : decode method_5_code 56 = .ok (.if_icmp .eq 5, 3) := by decide +kernel
theorem d9_59 : decode method_5_code 59 = .ok (.iconst 0, 1) := by decide +kernel
theorem d9_60 : decode method_5_code 60 = .ok (.ireturn, 1) := by decide +kernel
theorem d9_20 : decode method_5_code 20 = .ok (.iload_n 0, 1) := by decide +kernel
theorem d9_21 : decode method_5_code 21 = .ok (.sipush 255, 3) := by decide +kernel
theorem d9_24 : decode method_5_code 24 = .ok (.iand, 1) := by decide +kernel
theorem d9_25 : decode method_5_code 25 = .ok (.iload_n 1, 1) := by decide +kernel
theorem d9_26 : decode method_5_code 26 = .ok (.sipush 255, 3) := by decide +kernel
theorem d9_29 : decode method_5_code 29 = .ok (.iand, 1) := by decide +kernel
theorem d9_30 : decode method_5_code 30 = .ok (.if_icmp .eq 5, 3) := by decide +kernel
theorem d9_33 : decode method_5_code 33 = .ok (.iconst 0, 1) := by decide +kernel
theorem d9_34 : decode method_5_code 34 = .ok (.ireturn, 1) := by decide +kernel
theorem d9_13 : decode method_5_code 13 = .ok (.iconst 0, 1) := by decide +kernel
theorem d9_14 : decode method_5_code 14 = .ok (.ireturn, 1) := by decide +kernel
def Q_rmSame (Z : State) (a1 : Int32) (a2 : Int32) (h0 : Heap) (n0 : Nat) (v : Option Value) (h : Heap) (L : List Loc) : Prop := ∃ (r1 : Int32), v = some (.int r1) ∧ Fr n0 L ∧ h = h0 ∧ ((r1 = (1 : Int32) ∧ own_cs a1 = own_cs a2) ∨ (r1 = (0 : Int32) ∧ ¬ (own_cs a1 = own_cs a2)))
set_option maxRecDepth 65536 in
set_option maxHeartbeats 40000000 in
theorem rmSame (l : Launch) (Z : State) (a0 : Array Value) (hw : ∀ d ∈ tables_1, d.before a0 Z = true) (ws : List Jvm.Cond) (a1 : Int32) (a2 : Int32) (h0 : Heap) (n0 : Nat) (Z0 : n0 ≤ h0.size) (OLD : Old Z n0 h0) :
    MetFree l (⟨"com/example/ipomoea/ipomoea/store/JobKeyEqualsPinLaw", "same", "(II)Z"⟩ : MethodName) (head1 (Jvm.Cond.code (⟨"com/example/ipomoea/ipomoea/store/JobKeyEqualsPinLaw", "same", "(II)Z"⟩ : MethodName) method_5_code 3 (some .boolean) :: ws) ({ frames := 1, cells := 0, slots := 0, locals := 13 } : Room)) (fun a U => a = #[(.int a1), (.int a2)] ∧ Z.Warmed39 U.vm ∧ U.heap = h0) (fun _ _ _ _ _ => True) (fun _ U o U' => ∃ v L, o = .returned v ∧ Q_rmSame Z a1 a2 h0 n0 v U'.heap L ∧ FrameEnd U o U' L ({ frames := 1, cells := 0, slots := 0, locals := 13 } : Room).cells ({ frames := 1, cells := 0, slots := 0, locals := 13 } : Room).slots) := by
  refine MetFree.of_bodySF (plainFor_of_name pn_com_example_ipomoea_ipomoea_store_JobKeyEqualsPinLaw) hisR ?_
  intro p e s m args below meth c s₁ Bd hml0 hP hK
  obtain ⟨rfl, hZ, hh⟩ := hP
  have hx := Bd.exec
  have hby := Bd.bytes
  have hml : c.maxLocals = 3 := hml0
  have hown : s.vm.findClass "com/example/ipomoea/ipomoea/store/JobKeyEqualsPinLaw" = some m.cls := findClass_of_methodNamed Bd.named
  have hnm := (name_of_methodNamed Bd.named Bd.method).1
  have X0 : Stand p l e ({ frames := 1, cells := 0, slots := 0, locals := 13 } : Room) s m #[(.int a1), (.int a2)] below meth c s₁ [] 0 0 := Stand.of_body Bd
  have e0 : s₁.heap = h0 := by rw [← hh, Bd.state]; rfl
  have N0 := Fr.nil n0
  have pre0 : ∀ t, Steps p.tables e below (s₁.setTop (mkF m 0 #[.val (.int a1), .val (.int a2), .unset] [])) t → Steps p.tables e below (s₁.setTop (entryFrame m #[(.int a1), (.int a2)] 3)) t := fun t k => castTop (ef_rmSame m a1 a2) k
  have oz := OLD.1
  refine own_go (B := s₁.setTop (mkF m 0 #[.val (.int a1), .val (.int a2), .unset] [])) pre0 ?_
  show ∃ t o, Steps p.tables e below (s₁.setTop (mkF m 0 #[.val (.int a1), .val (.int a2), .unset] [])) t ∧ _
  refine own_go (fun _ => XS.iloadN X0.here hx rfl (hb hby d9_0) rfl) ?_
  show ∃ t o, Steps p.tables e below (s₁.setTop (mkF m 1 #[.val (.int a1), .val (.int a2), .unset] [(.int a1)])) t ∧ _
  obtain ⟨_, _, ⟨T1, L1, k1, n1⟩, -, X1, ⟨Lc1, hQ1, l1, y1, z1⟩, st1⟩ := Jvm.LawKit.callS X0 hx (y := (⟨"com/example/ipomoea/ipomoea/store/JobKeyEqualsPinLaw", "len", "(I)I"⟩ : MethodName)) hown (mvT hZ (hw _ (List.mem_of_getElem? (i := 7) rfl))) (mvT hZ (hw _ (List.mem_of_getElem? (i := 8) rfl))) (mvT hZ (hw _ (List.mem_of_getElem? (i := 5) rfl))) (mvT hZ (hw _ (List.mem_of_getElem? (i := 9) rfl))) (by decide) (backOf (W := 0) (rmLen l Z a0 hw [] a1 h0 n0 Z0 OLD) hZ (hw _ (List.mem_of_getElem? (i := 9) rfl)) (hw _ (List.mem_of_getElem? (i := 5) rfl)) (by decide) (by decide)) (g := (mkF m 1 #[.val (.int a1), .val (.int a2), .unset] [(.int a1)])) rfl (by rw [hml]; rfl) (argsL := [(.int a1)]) (rest := []) (lenOf pd__28I_29I rfl) rfl (by show 2 * 0 + _ ≤ _; exact Nat.le_of_eq rfl) (hb hby d9_1) (fun _ _ => ⟨rfl, e0, (by decide : 0 + 0 ≤ _), (by decide : 0 + 0 ≤ _)⟩)
  dsimp only [Pt.U, Pt.locs, Pt.cells, Pt.slots] at X1 l1 y1 z1 st1 hQ1
  subst l1 y1 z1
  obtain ⟨r1_1, rfl, Nq1, e1, H1_0⟩ := hQ1
  have N1 := Fr.app N0 Nq1
  refine own_go st1 ?_
  refine own_go (fun _ => XS.istoreN X1.here hx rfl (hb hby d9_4) rfl (l' := #[.val (.int a1), .val (.int a2), .val (.int r1_1)]) rfl) ?_
  refine own_go (fun _ => XS.iloadN X1.here hx rfl (hb hby d9_5) rfl) ?_
  show ∃ t o, Steps p.tables e below (T1.setTop (mkF m 6 #[.val (.int a1), .val (.int a2), .val (.int r1_1)] [(.int r1_1)])) t ∧ _
  refine own_go (fun _ => XS.iloadN X1.here hx rfl (hb hby d9_6) rfl) ?_
  show ∃ t o, Steps p.tables e below (T1.setTop (mkF m 7 #[.val (.int a1), .val (.int a2), .val (.int r1_1)] [(.int a2), (.int r1_1)])) t ∧ _
  obtain ⟨_, _, ⟨T2, L2, k2, n2⟩, -, X2, ⟨Lc2, hQ2, l2, y2, z2⟩, st2⟩ := Jvm.LawKit.callS X1 hx (y := (⟨"com/example/ipomoea/ipomoea/store/JobKeyEqualsPinLaw", "len", "(I)I"⟩ : MethodName)) hown (mvT hZ (hw _ (List.mem_of_getElem? (i := 7) rfl))) (mvT hZ (hw _ (List.mem_of_getElem? (i := 8) rfl))) (mvT hZ (hw _ (List.mem_of_getElem? (i := 5) rfl))) (mvT hZ (hw _ (List.mem_of_getElem? (i := 9) rfl))) (by decide) (backOf (W := 1) (rmLen l Z a0 hw [] a2 h0 n0 Z0 OLD) hZ (hw _ (List.mem_of_getElem? (i := 9) rfl)) (hw _ (List.mem_of_getElem? (i := 5) rfl)) (by decide) (by decide)) (g := (mkF m 7 #[.val (.int a1), .val (.int a2), .val (.int r1_1)] [(.int a2), (.int r1_1)])) rfl (by rw [hml]; rfl) (argsL := [(.int a2)]) (rest := [(.int r1_1)]) (lenOf pd__28I_29I rfl) rfl (by show 2 * 0 + _ ≤ _; exact Nat.le_of_eq rfl) (hb hby d9_7) (fun _ _ => ⟨rfl, e1, (by decide : 0 + 0 ≤ _), (by decide : 0 + 0 ≤ _)⟩)
  dsimp only [Pt.U, Pt.locs, Pt.cells, Pt.slots] at X2 l2 y2 z2 st2 hQ2
  subst l2 y2 z2
  obtain ⟨r1_2, rfl, Nq2, e2, H2_0⟩ := hQ2
  have N2 := Fr.app N1 Nq2
  refine own_go st2 ?_
  show ∃ t o, Steps p.tables e below (T2.setTop (mkF m 10 #[.val (.int a1), .val (.int a2), .val (.int r1_1)] [(.int r1_2), (.int r1_1)])) t ∧ _
  by_cases hc3 : r1_1 = r1_2
  · refine own_go (fun _ => XS.icmpYes X2.here hx rfl (pc0 := 10) (pc' := 15) rfl (hb hby d9_10) rfl (teq hc3).1 (by decide) (by decide)) ?_
    refine own_go (fun _ => XS.iloadN X2.here hx rfl (hb hby d9_15) rfl) ?_
    refine own_go (fun _ => XS.iconst X2.here hx rfl (hb hby d9_16)) ?_
    show ∃ t o, Steps p.tables e below (T2.setTop (mkF m 17 #[.val (.int a1), .val (.int a2), .val (.int r1_1)] [(.int (1 : Int32)), (.int r1_1)])) t ∧ _
    by_cases hc4 : r1_1 < (1 : Int32)
    · refine own_go (fun _ => XS.icmpYes X2.here hx rfl (pc0 := 17) (pc' := 35) rfl (hb hby d9_17) rfl (tlt hc4).1 (by decide) (by decide)) ?_
      refine own_go (fun _ => XS.iloadN X2.here hx rfl (hb hby d9_35) rfl) ?_
      refine own_go (fun _ => XS.iconst X2.here hx rfl (hb hby d9_36)) ?_
      show ∃ t o, Steps p.tables e below (T2.setTop (mkF m 37 #[.val (.int a1), .val (.int a2), .val (.int r1_1)] [(.int (2 : Int32)), (.int r1_1)])) t ∧ _
      by_cases hc5 : r1_1 < (2 : Int32)
      · refine own_go (fun _ => XS.icmpYes X2.here hx rfl (pc0 := 37) (pc' := 61) rfl (hb hby d9_37) rfl (tlt hc5).1 (by decide) (by decide)) ?_
        refine own_go (fun _ => XS.iconst X2.here hx rfl (hb hby d9_61)) ?_
        show ∃ t o, Steps p.tables e below (T2.setTop (mkF m 62 #[.val (.int a1), .val (.int a2), .val (.int r1_1)] [(.int (1 : Int32))])) t ∧ _
        have smx := own_sm (a1 := a1) (a2 := a2)
        rw [← H1_0, ← H2_0] at smx
        obtain ⟨fs, hr, hrun, hended, hW, hsame⟩ := X2.leave (v := some (.int (1 : Int32))) (fun h => by rw [Bd.returns] at h; cases h)
        refine ⟨_, _, ?_, hrun, hended, _, _, rfl, ?_, ⟨_, rfl⟩, hW, hsame.mono (by decide) (by decide)⟩
        · exact retN X2 hx (t := .boolean) Bd.returns (by simp) (hb hby d9_62) hr
        · show Q_rmSame Z _ _ h0 n0 _ T2.heap _
          rw [e2]
          exact ⟨(1 : Int32), rfl, N2, rfl, (by first | exact Or.inl ⟨rfl, smx.mpr ⟨by assumption, fun q => by first | assumption | exact absurd (by assumption) q, fun q => by first | assumption | exact absurd (by assumption) q⟩⟩ | exact Or.inr ⟨rfl, fun q => absurd (smx.mp q).1 (by assumption)⟩ | exact Or.inr ⟨rfl, fun q => absurd ((smx.mp q).2.1 (by assumption)) (by assumption)⟩ | exact Or.inr ⟨rfl, fun q => absurd ((smx.mp q).2.2 (by assumption)) (by assumption)⟩)⟩
      · refine own_go (fun _ => XS.icmpNo X2.here hx rfl (hb hby d9_37) rfl (flt hc5).1) ?_
        refine own_go (fun _ => XS.iloadN X2.here hx rfl (hb hby d9_40) rfl) ?_
        refine own_go (fun _ => XS.bipush X2.here hx rfl (hb hby d9_41)) ?_
        show ∃ t o, Steps p.tables e below (T2.setTop (mkF m 43 #[.val (.int a1), .val (.int a2), .val (.int r1_1)] [(.int (8 : Int32)), (.int a1)])) t ∧ _
        refine own_go (fun _ => XS.iushr X2.here hx rfl (hb hby d9_43) rfl) ?_
        refine own_go (fun _ => XS.sipush X2.here hx rfl (hb hby d9_44)) ?_
        refine own_go (fun _ => XS.iand X2.here hx rfl (hb hby d9_47) rfl) ?_
        show ∃ t o, Steps p.tables e below (T2.setTop (mkF m 48 #[.val (.int a1), .val (.int a2), .val (.int r1_1)] [(.int (((a1.toUInt32 >>> ((8 : Int32) &&& 31).toUInt32).toInt32) &&& (255 : Int32)))])) t ∧ _
        refine own_go (fun _ => XS.iloadN X2.here hx rfl (hb hby d9_48) rfl) ?_
        refine own_go (fun _ => XS.bipush X2.here hx rfl (hb hby d9_49)) ?_
        refine own_go (fun _ => XS.iushr X2.here hx rfl (hb hby d9_51) rfl) ?_
        show ∃ t o, Steps p.tables e below (T2.setTop (mkF m 52 #[.val (.int a1), .val (.int a2), .val (.int r1_1)] [(.int ((a2.toUInt32 >>> ((8 : Int32) &&& 31).toUInt32).toInt32)), (.int (((a1.toUInt32 >>> ((8 : Int32) &&& 31).toUInt32).toInt32) &&& (255 : Int32)))])) t ∧ _
        refine own_go (fun _ => XS.sipush X2.here hx rfl (hb hby d9_52)) ?_
        refine own_go (fun _ => XS.iand X2.here hx rfl (hb hby d9_55) rfl) ?_
        show ∃ t o, Steps p.tables e below (T2.setTop (mkF m 56 #[.val (.int a1), .val (.int a2), .val (.int r1_1)] [(.int (((a2.toUInt32 >>> ((8 : Int32) &&& 31).toUInt32).toInt32) &&& (255 : Int32))), (.int (((a1.toUInt32 >>> ((8 : Int32) &&& 31).toUInt32).toInt32) &&& (255 : Int32)))])) t ∧ _
        by_cases hc6 : (((a1.toUInt32 >>> ((8 : Int32) &&& 31).toUInt32).toInt32) &&& (255 : Int32)) = (((a2.toUInt32 >>> ((8 : Int32) &&& 31).toUInt32).toInt32) &&& (255 : Int32))
        · refine own_go (fun _ => XS.icmpYes X2.here hx rfl (pc0 := 56) (pc' := 61) rfl (hb hby d9_56) rfl (teq hc6).1 (by decide) (by decide)) ?_
          refine own_go (fun _ => XS.iconst X2.here hx rfl (hb hby d9_61)) ?_
          show ∃ t o, Steps p.tables e below (T2.setTop (mkF m 62 #[.val (.int a1), .val (.int a2), .val (.int r1_1)] [(.int (1 : Int32))])) t ∧ _
          have smx := own_sm (a1 := a1) (a2 := a2)
          rw [← H1_0, ← H2_0] at smx
          obtain ⟨fs, hr, hrun, hended, hW, hsame⟩ := X2.leave (v := some (.int (1 : Int32))) (fun h => by rw [Bd.returns] at h; cases h)
          refine ⟨_, _, ?_, hrun, hended, _, _, rfl, ?_, ⟨_, rfl⟩, hW, hsame.mono (by decide) (by decide)⟩
          · exact retN X2 hx (t := .boolean) Bd.returns (by simp) (hb hby d9_62) hr
          · show Q_rmSame Z _ _ h0 n0 _ T2.heap _
            rw [e2]
            exact ⟨(1 : Int32), rfl, N2, rfl, (by first | exact Or.inl ⟨rfl, smx.mpr ⟨by assumption, fun q => by first | assumption | exact absurd (by assumption) q, fun q => by first | assumption | exact absurd (by assumption) q⟩⟩ | exact Or.inr ⟨rfl, fun q => absurd (smx.mp q).1 (by assumption)⟩ | exact Or.inr ⟨rfl, fun q => absurd ((smx.mp q).2.1 (by assumption)) (by assumption)⟩ | exact Or.inr ⟨rfl, fun q => absurd ((smx.mp q).2.2 (by assumption)) (by assumption)⟩)⟩
        · refine own_go (fun _ => XS.icmpNo X2.here hx rfl (hb hby d9_56) rfl (feq hc6).1) ?_
          refine own_go (fun _ => XS.iconst X2.here hx rfl (hb hby d9_59)) ?_
          show ∃ t o, Steps p.tables e below (T2.setTop (mkF m 60 #[.val (.int a1), .val (.int a2), .val (.int r1_1)] [(.int (0 : Int32))])) t ∧ _
          have smx := own_sm (a1 := a1) (a2 := a2)
          rw [← H1_0, ← H2_0] at smx
          obtain ⟨fs, hr, hrun, hended, hW, hsame⟩ := X2.leave (v := some (.int (0 : Int32))) (fun h => by rw [Bd.returns] at h; cases h)
          refine ⟨_, _, ?_, hrun, hended, _, _, rfl, ?_, ⟨_, rfl⟩, hW, hsame.mono (by decide) (by decide)⟩
          · exact retN X2 hx (t := .boolean) Bd.returns (by simp) (hb hby d9_60) hr
          · show Q_rmSame Z _ _ h0 n0 _ T2.heap _
            rw [e2]
            exact ⟨(0 : Int32), rfl, N2, rfl, (by first | exact Or.inl ⟨rfl, smx.mpr ⟨by assumption, fun q => by first | assumption | exact absurd (by assumption) q, fun q => by first | assumption | exact absurd (by assumption) q⟩⟩ | exact Or.inr ⟨rfl, fun q => absurd (smx.mp q).1 (by assumption)⟩ | exact Or.inr ⟨rfl, fun q => absurd ((smx.mp q).2.1 (by assumption)) (by assumption)⟩ | exact Or.inr ⟨rfl, fun q => absurd ((smx.mp q).2.2 (by assumption)) (by assumption)⟩)⟩
    · refine own_go (fun _ => XS.icmpNo X2.here hx rfl (hb hby d9_17) rfl (flt hc4).1) ?_
      refine own_go (fun _ => XS.iloadN X2.here hx rfl (hb hby d9_20) rfl) ?_
      refine own_go (fun _ => XS.sipush X2.here hx rfl (hb hby d9_21)) ?_
      show ∃ t o, Steps p.tables e below (T2.setTop (mkF m 24 #[.val (.int a1), .val (.int a2), .val (.int r1_1)] [(.int (255 : Int32)), (.int a1)])) t ∧ _
      refine own_go (fun _ => XS.iand X2.here hx rfl (hb hby d9_24) rfl) ?_
      refine own_go (fun _ => XS.iloadN X2.here hx rfl (hb hby d9_25) rfl) ?_
      refine own_go (fun _ => XS.sipush X2.here hx rfl (hb hby d9_26)) ?_
      show ∃ t o, Steps p.tables e below (T2.setTop (mkF m 29 #[.val (.int a1), .val (.int a2), .val (.int r1_1)] [(.int (255 : Int32)), (.int a2), (.int (a1 &&& (255 : Int32)))])) t ∧ _
      refine own_go (fun _ => XS.iand X2.here hx rfl (hb hby d9_29) rfl) ?_
      show ∃ t o, Steps p.tables e below (T2.setTop (mkF m 30 #[.val (.int a1), .val (.int a2), .val (.int r1_1)] [(.int (a2 &&& (255 : Int32))), (.int (a1 &&& (255 : Int32)))])) t ∧ _
      by_cases hc7 : (a1 &&& (255 : Int32)) = (a2 &&& (255 : Int32))
      · refine own_go (fun _ => XS.icmpYes X2.here hx rfl (pc0 := 30) (pc' := 35) rfl (hb hby d9_30) rfl (teq hc7).1 (by decide) (by decide)) ?_
        refine own_go (fun _ => XS.iloadN X2.here hx rfl (hb hby d9_35) rfl) ?_
        refine own_go (fun _ => XS.iconst X2.here hx rfl (hb hby d9_36)) ?_
        show ∃ t o, Steps p.tables e below (T2.setTop (mkF m 37 #[.val (.int a1), .val (.int a2), .val (.int r1_1)] [(.int (2 : Int32)), (.int r1_1)])) t ∧ _
        by_cases hc8 : r1_1 < (2 : Int32)
        · refine own_go (fun _ => XS.icmpYes X2.here hx rfl (pc0 := 37) (pc' := 61) rfl (hb hby d9_37) rfl (tlt hc8).1 (by decide) (by decide)) ?_
          refine own_go (fun _ => XS.iconst X2.here hx rfl (hb hby d9_61)) ?_
          show ∃ t o, Steps p.tables e below (T2.setTop (mkF m 62 #[.val (.int a1), .val (.int a2), .val (.int r1_1)] [(.int (1 : Int32))])) t ∧ _
          have smx := own_sm (a1 := a1) (a2 := a2)
          rw [← H1_0, ← H2_0] at smx
          obtain ⟨fs, hr, hrun, hended, hW, hsame⟩ := X2.leave (v := some (.int (1 : Int32))) (fun h => by rw [Bd.returns] at h; cases h)
          refine ⟨_, _, ?_, hrun, hended, _, _, rfl, ?_, ⟨_, rfl⟩, hW, hsame.mono (by decide) (by decide)⟩
          · exact retN X2 hx (t := .boolean) Bd.returns (by simp) (hb hby d9_62) hr
          · show Q_rmSame Z _ _ h0 n0 _ T2.heap _
            rw [e2]
            exact ⟨(1 : Int32), rfl, N2, rfl, (by first | exact Or.inl ⟨rfl, smx.mpr ⟨by assumption, fun q => by first | assumption | exact absurd (by assumption) q, fun q => by first | assumption | exact absurd (by assumption) q⟩⟩ | exact Or.inr ⟨rfl, fun q => absurd (smx.mp q).1 (by assumption)⟩ | exact Or.inr ⟨rfl, fun q => absurd ((smx.mp q).2.1 (by assumption)) (by assumption)⟩ | exact Or.inr ⟨rfl, fun q => absurd ((smx.mp q).2.2 (by assumption)) (by assumption)⟩)⟩
        · refine own_go (fun _ => XS.icmpNo X2.here hx rfl (hb hby d9_37) rfl (flt hc8).1) ?_
          refine own_go (fun _ => XS.iloadN X2.here hx rfl (hb hby d9_40) rfl) ?_
          refine own_go (fun _ => XS.bipush X2.here hx rfl (hb hby d9_41)) ?_
          show ∃ t o, Steps p.tables e below (T2.setTop (mkF m 43 #[.val (.int a1), .val (.int a2), .val (.int r1_1)] [(.int (8 : Int32)), (.int a1)])) t ∧ _
          refine own_go (fun _ => XS.iushr X2.here hx rfl (hb hby d9_43) rfl) ?_
          refine own_go (fun _ => XS.sipush X2.here hx rfl (hb hby d9_44)) ?_
          refine own_go (fun _ => XS.iand X2.here hx rfl (hb hby d9_47) rfl) ?_
          show ∃ t o, Steps p.tables e below (T2.setTop (mkF m 48 #[.val (.int a1), .val (.int a2), .val (.int r1_1)] [(.int (((a1.toUInt32 >>> ((8 : Int32) &&& 31).toUInt32).toInt32) &&& (255 : Int32)))])) t ∧ _
          refine own_go (fun _ => XS.iloadN X2.here hx rfl (hb hby d9_48) rfl) ?_
          refine own_go (fun _ => XS.bipush X2.here hx rfl (hb hby d9_49)) ?_
          refine own_go (fun _ => XS.iushr X2.here hx rfl (hb hby d9_51) rfl) ?_
          show ∃ t o, Steps p.tables e below (T2.setTop (mkF m 52 #[.val (.int a1), .val (.int a2), .val (.int r1_1)] [(.int ((a2.toUInt32 >>> ((8 : Int32) &&& 31).toUInt32).toInt32)), (.int (((a1.toUInt32 >>> ((8 : Int32) &&& 31).toUInt32).toInt32) &&& (255 : Int32)))])) t ∧ _
          refine own_go (fun _ => XS.sipush X2.here hx rfl (hb hby d9_52)) ?_
          refine own_go (fun _ => XS.iand X2.here hx rfl (hb hby d9_55) rfl) ?_
          show ∃ t o, Steps p.tables e below (T2.setTop (mkF m 56 #[.val (.int a1), .val (.int a2), .val (.int r1_1)] [(.int (((a2.toUInt32 >>> ((8 : Int32) &&& 31).toUInt32).toInt32) &&& (255 : Int32))), (.int (((a1.toUInt32 >>> ((8 : Int32) &&& 31).toUInt32).toInt32) &&& (255 : Int32)))])) t ∧ _
          by_cases hc9 : (((a1.toUInt32 >>> ((8 : Int32) &&& 31).toUInt32).toInt32) &&& (255 : Int32)) = (((a2.toUInt32 >>> ((8 : Int32) &&& 31).toUInt32).toInt32) &&& (255 : Int32))
          · refine own_go (fun _ => XS.icmpYes X2.here hx rfl (pc0 := 56) (pc' := 61) rfl (hb hby d9_56) rfl (teq hc9).1 (by decide) (by decide)) ?_
            refine own_go (fun _ => XS.iconst X2.here hx rfl (hb hby d9_61)) ?_
            show ∃ t o, Steps p.tables e below (T2.setTop (mkF m 62 #[.val (.int a1), .val (.int a2), .val (.int r1_1)] [(.int (1 : Int32))])) t ∧ _
            have smx := own_sm (a1 := a1) (a2 := a2)
            rw [← H1_0, ← H2_0] at smx
            obtain ⟨fs, hr, hrun, hended, hW, hsame⟩ := X2.leave (v := some (.int (1 : Int32))) (fun h => by rw [Bd.returns] at h; cases h)
            refine ⟨_, _, ?_, hrun, hended, _, _, rfl, ?_, ⟨_, rfl⟩, hW, hsame.mono (by decide) (by decide)⟩
            · exact retN X2 hx (t := .boolean) Bd.returns (by simp) (hb hby d9_62) hr
            · show Q_rmSame Z _ _ h0 n0 _ T2.heap _
              rw [e2]
              exact ⟨(1 : Int32), rfl, N2, rfl, (by first | exact Or.inl ⟨rfl, smx.mpr ⟨by assumption, fun q => by first | assumption | exact absurd (by assumption) q, fun q => by first | assumption | exact absurd (by assumption) q⟩⟩ | exact Or.inr ⟨rfl, fun q => absurd (smx.mp q).1 (by assumption)⟩ | exact Or.inr ⟨rfl, fun q => absurd ((smx.mp q).2.1 (by assumption)) (by assumption)⟩ | exact Or.inr ⟨rfl, fun q => absurd ((smx.mp q).2.2 (by assumption)) (by assumption)⟩)⟩
          · refine own_go (fun _ => XS.icmpNo X2.here hx rfl (hb hby d9_56) rfl (feq hc9).1) ?_
            refine own_go (fun _ => XS.iconst X2.here hx rfl (hb hby d9_59)) ?_
            show ∃ t o, Steps p.tables e below (T2.setTop (mkF m 60 #[.val (.int a1), .val (.int a2), .val (.int r1_1)] [(.int (0 : Int32))])) t ∧ _
            have smx := own_sm (a1 := a1) (a2 := a2)
            rw [← H1_0, ← H2_0] at smx
            obtain ⟨fs, hr, hrun, hended, hW, hsame⟩ := X2.leave (v := some (.int (0 : Int32))) (fun h => by rw [Bd.returns] at h; cases h)
            refine ⟨_, _, ?_, hrun, hended, _, _, rfl, ?_, ⟨_, rfl⟩, hW, hsame.mono (by decide) (by decide)⟩
            · exact retN X2 hx (t := .boolean) Bd.returns (by simp) (hb hby d9_60) hr
            · show Q_rmSame Z _ _ h0 n0 _ T2.heap _
              rw [e2]
              exact ⟨(0 : Int32), rfl, N2, rfl, (by first | exact Or.inl ⟨rfl, smx.mpr ⟨by assumption, fun q => by first | assumption | exact absurd (by assumption) q, fun q => by first | assumption | exact absurd (by assumption) q⟩⟩ | exact Or.inr ⟨rfl, fun q => absurd (smx.mp q).1 (by assumption)⟩ | exact Or.inr ⟨rfl, fun q => absurd ((smx.mp q).2.1 (by assumption)) (by assumption)⟩ | exact Or.inr ⟨rfl, fun q => absurd ((smx.mp q).2.2 (by assumption)) (by assumption)⟩)⟩
      · refine own_go (fun _ => XS.icmpNo X2.here hx rfl (hb hby d9_30) rfl (feq hc7).1) ?_
        refine own_go (fun _ => XS.iconst X2.here hx rfl (hb hby d9_33)) ?_
        show ∃ t o, Steps p.tables e below (T2.setTop (mkF m 34 #[.val (.int a1), .val (.int a2), .val (.int r1_1)] [(.int (0 : Int32))])) t ∧ _
        have smx := own_sm (a1 := a1) (a2 := a2)
        rw [← H1_0, ← H2_0] at smx
        obtain ⟨fs, hr, hrun, hended, hW, hsame⟩ := X2.leave (v := some (.int (0 : Int32))) (fun h => by rw [Bd.returns] at h; cases h)
        refine ⟨_, _, ?_, hrun, hended, _, _, rfl, ?_, ⟨_, rfl⟩, hW, hsame.mono (by decide) (by decide)⟩
        · exact retN X2 hx (t := .boolean) Bd.returns (by simp) (hb hby d9_34) hr
        · show Q_rmSame Z _ _ h0 n0 _ T2.heap _
          rw [e2]
          exact ⟨(0 : Int32), rfl, N2, rfl, (by first | exact Or.inl ⟨rfl, smx.mpr ⟨by assumption, fun q => by first | assumption | exact absurd (by assumption) q, fun q => by first | assumption | exact absurd (by assumption) q⟩⟩ | exact Or.inr ⟨rfl, fun q => absurd (smx.mp q).1 (by assumption)⟩ | exact Or.inr ⟨rfl, fun q => absurd ((smx.mp q).2.1 (by assumption)) (by assumption)⟩ | exact Or.inr ⟨rfl, fun q => absurd ((smx.mp q).2.2 (by assumption)) (by assumption)⟩)⟩
  · refine own_go (fun _ => XS.icmpNo X2.here hx rfl (hb hby d9_10) rfl (feq hc3).1) ?_
    refine own_go (fun _ => XS.iconst X2.here hx rfl (hb hby d9_13)) ?_
    show ∃ t o, Steps p.tables e below (T2.setTop (mkF m 14 #[.val (.int a1), .val (.int a2), .val (.int r1_1)] [(.int (0 : Int32))])) t ∧ _
    have smx := own_sm (a1 := a1) (a2 := a2)
    rw [← H1_0, ← H2_0] at smx
    obtain ⟨fs, hr, hrun, hended, hW, hsame⟩ := X2.leave (v := some (.int (0 : Int32))) (fun h => by rw [Bd.returns] at h; cases h)
    refine ⟨_, _, ?_, hrun, hended, _, _, rfl, ?_, ⟨_, rfl⟩, hW, hsame.mono (by decide) (by decide)⟩
    · exact retN X2 hx (t := .boolean) Bd.returns (by simp) (hb hby d9_14) hr
    · show Q_rmSame Z _ _ h0 n0 _ T2.heap _
      rw [e2]
      exact ⟨(0 : Int32), rfl, N2, rfl, (by first | exact Or.inl ⟨rfl, smx.mpr ⟨by assumption, fun q => by first | assumption | exact absurd (by assumption) q, fun q => by first | assumption | exact absurd (by assumption) q⟩⟩ | exact Or.inr ⟨rfl, fun q => absurd (smx.mp q).1 (by assumption)⟩ | exact Or.inr ⟨rfl, fun q => absurd ((smx.mp q).2.1 (by assumption)) (by assumption)⟩ | exact Or.inr ⟨rfl, fun q => absurd ((smx.mp q).2.2 (by assumption)) (by assumption)⟩)⟩
theorem ef_rm0 (m : MethodId) (x0 : Int32) (x1 : Int32) (x2 : Int32) (x3 : Int32) (x4 : Int32) : entryFrame m #[(.int x0), (.int x1), (.int x2), (.int x3), (.int x4)] maxLocals = mkF m 0 #[.val (.int x0), .val (.int x1), .val (.int x2), .val (.int x3), .val (.int x4), .unset, .unset, .unset, .unset, .unset, .unset] [] := by first | (simp [entryFrame, mkF, argsToLocals, Value.category, maxLocals]; done) | rfl
theorem pd__28I_29Ljava_2flang_2fString_3b : parseMethodDescriptor "(I)Ljava/lang/String;" = some ⟨[.int], some (.object "java/lang/String")⟩ := by decide +kernel
theorem pd__28Ljava_2flang_2fString_3bLjava_2flang_2fString_3b_29V : parseMethodDescriptor "(Ljava/lang/String;Ljava/lang/String;)V" = some ⟨[(.object "java/lang/String"), (.object "java/lang/String")], none⟩ := by decide +kernel
theorem pd__28II_29Z : parseMethodDescriptor "(II)Z" = some ⟨[.int, .int], some .boolean⟩ := by decide +kernel
def Q_rm0 (Z : State) (x1 : Int32) (x2 : Int32) (x3 : Int32) (x4 : Int32) (x5 : Int32) (zc : Int32) (h0 : Heap) (n0 : Nat) (v : Option Value) (h : Heap) (L : List Loc) : Prop := v = some (.int (1 : Int32)) ∧ Fr n0 L ∧ Keep h0 h []
set_option maxRecDepth 65536 in
set_option maxHeartbeats 40000000 in
theorem rm0 (l : Launch) (Z : State) (a0 : Array Value) (hw : ∀ d ∈ tables_1, d.before a0 Z = true) (ws : List Jvm.Cond) (x1 : Int32) (x2 : Int32) (x3 : Int32) (x4 : Int32) (x5 : Int32) (zc : Int32) (h0 : Heap) (n0 : Nat) (Z0 : n0 ≤ h0.size) (OLD : Old Z n0 h0) (P1 : Sta Z Z.heap "java/lang/String" "COMPACT_STRINGS" "Z" (.int zc)) (hzc : ¬ (zc = (0 : Int32))) (hEL : EW Z a0 own_EL) :
    MetFree l x (head1 (Jvm.Cond.code x code maxLocals ret :: ws) room_1) (fun a U => a = #[(.int x1), (.int x2), (.int x3), (.int x4), (.int x5)] ∧ Z.Warmed39 U.vm ∧ U.heap = h0 ∧ CHv Z own_EL U.vm h0) (fun _ _ _ _ _ => True) (fun _ U o U' => ∃ v L, o = .returned v ∧ Q_rm0 Z x1 x2 x3 x4 x5 zc h0 n0 v U'.heap L ∧ CHr Z own_EL U.vm U.heap U'.vm U'.heap ∧ ReturnedEndW U o U' L room_1.cells room_1.slots) := by
  refine MetFree.of_bodySF (plainFor_of_name pn_com_example_ipomoea_ipomoea_store_JobKeyEqualsPinLaw) hisR ?_
  intro p e s m args below meth c s₁ Bd hml0 hP hK
  obtain ⟨rfl, hZ, hh, hCH⟩ := hP
  have hx := Bd.exec
  have hby := Bd.bytes
  have hml : c.maxLocals = 11 := hml0
  have hown : s.vm.findClass "com/example/ipomoea/ipomoea/store/JobKeyEqualsPinLaw" = some m.cls := findClass_of_methodNamed Bd.named
  have hnm := (name_of_methodNamed Bd.named Bd.method).1
  have X0 : Stand p l e room_1 (s.setVm s.vm) m #[(.int x1), (.int x2), (.int x3), (.int x4), (.int x5)] below meth c s₁ [] 0 0 := Stand.of_body Bd
  have e0 : s₁.heap = h0 := by rw [← hh, Bd.state]; rfl
  have N0 := Fr.nil n0
  have pre0 : ∀ t, Steps p.tables e below (s₁.setTop (mkF m 0 #[.val (.int x1), .val (.int x2), .val (.int x3), .val (.int x4), .val (.int x5), .unset, .unset, .unset, .unset, .unset, .unset] [])) t → Steps p.tables e below (s₁.setTop (entryFrame m #[(.int x1), (.int x2), (.int x3), (.int x4), (.int x5)] maxLocals)) t := fun t k => castTop (ef_rm0 m x1 x2 x3 x4 x5) k
  have hZ : Z.Warmed39 (s.setVm s.vm).vm := hZ
  have hown : (s.setVm s.vm).vm.findClass "com/example/ipomoea/ipomoea/store/JobKeyEqualsPinLaw" = some m.cls := hown
  have hS : s.Since s.vm 0 := (State.WarmedH.refl s).since 0
  have CH0 : CHr Z own_EL s.vm h0 s.vm h0 := CHr.refl hCH
  have oz := OLD.1
  refine own_go (B := s₁.setTop (mkF m 0 #[.val (.int x1), .val (.int x2), .val (.int x3), .val (.int x4), .val (.int x5), .unset, .unset, .unset, .unset, .unset, .unset] [])) pre0 ?_
  show ∃ t o, Steps p.tables e below (s₁.setTop (mkF m 0 #[.val (.int x1), .val (.int x2), .val (.int x3), .val (.int x4), .val (.int x5), .unset, .unset, .unset, .unset, .unset, .unset] [])) t ∧ _
  refine own_go (fun _ => XS.iload X0.here hx rfl (hb hby at_0) rfl) ?_
  refine own_go (fun _ => XS.iconst X0.here hx rfl (hb hby at_2)) ?_
  refine own_go (fun _ => XS.iand X0.here hx rfl (hb hby at_3) rfl) ?_
  show ∃ t o, Steps p.tables e below (s₁.setTop (mkF m 4 #[.val (.int x1), .val (.int x2), .val (.int x3), .val (.int x4), .val (.int x5), .unset, .unset, .unset, .unset, .unset, .unset] [(.int (x5 &&& (1 : Int32)))])) t ∧ _
  have seg2 : ∀ t, Steps p.tables e below (s₁.setTop (mkF m 12 #[.val (.int x1), .val (.int x2), .val (.int x3), .val (.int x4), .val (.int x5), .unset, .unset, .unset, .unset, .unset, .unset] [(.int (if (x5 &&& (1 : Int32)) = (0 : Int32) then x3 else x1))])) t → Steps p.tables e below (s₁.setTop (mkF m 4 #[.val (.int x1), .val (.int x2), .val (.int x3), .val (.int x4), .val (.int x5), .unset, .unset, .unset, .unset, .unset, .unset] [(.int (x5 &&& (1 : Int32)))])) t := by
    intro t k
    show Steps p.tables e below (s₁.setTop (mkF m 4 #[.val (.int x1), .val (.int x2), .val (.int x3), .val (.int x4), .val (.int x5), .unset, .unset, .unset, .unset, .unset, .unset] [(.int (x5 &&& (1 : Int32)))])) _
    by_cases hc3 : (x5 &&& (1 : Int32)) = (0 : Int32)
    · refine XS.ifYes X0.here hx rfl (pc0 := 4) (pc' := 11) rfl (hb hby at_4) rfl ((if0 _ _).trans (teq hc3).1) (by decide) (by decide) ?_
      show Steps p.tables e below (s₁.setTop (mkF m 11 #[.val (.int x1), .val (.int x2), .val (.int x3), .val (.int x4), .val (.int x5), .unset, .unset, .unset, .unset, .unset, .unset] [])) _
      refine XS.iloadN X0.here hx rfl (hb hby at_11) rfl ?_
      simp only [if_pos hc3] at k
      exact k
    · refine XS.ifNo X0.here hx rfl (hb hby at_4) rfl ((if0 _ _).trans (feq hc3).1) ?_
      show Steps p.tables e below (s₁.setTop (mkF m 7 #[.val (.int x1), .val (.int x2), .val (.int x3), .val (.int x4), .val (.int x5), .unset, .unset, .unset, .unset, .unset, .unset] [])) _
      refine XS.iloadN X0.here hx rfl (hb hby at_7) rfl ?_
      show Steps p.tables e below (s₁.setTop (mkF m 8 #[.val (.int x1), .val (.int x2), .val (.int x3), .val (.int x4), .val (.int x5), .unset, .unset, .unset, .unset, .unset, .unset] [(.int x1)])) _
      refine XS.goto X0.here hx rfl (pc0 := 8) (pc' := 12) rfl (hb hby at_8) (by decide) (by decide) ?_
      simp only [if_neg hc3] at k
      exact k
  refine own_go seg2 ?_
  refine own_go (fun _ => XS.istore X0.here hx rfl (hb hby at_12) rfl (l' := #[.val (.int x1), .val (.int x2), .val (.int x3), .val (.int x4), .val (.int x5), .val (.int (if (x5 &&& (1 : Int32)) = (0 : Int32) then x3 else x1)), .unset, .unset, .unset, .unset, .unset]) rfl) ?_
  show ∃ t o, Steps p.tables e below (s₁.setTop (mkF m 14 #[.val (.int x1), .val (.int x2), .val (.int x3), .val (.int x4), .val (.int x5), .val (.int (if (x5 &&& (1 : Int32)) = (0 : Int32) then x3 else x1)), .unset, .unset, .unset, .unset, .unset] [])) t ∧ _
  obtain ⟨w2, e_w2⟩ : ∃ z : Int32, z = (if (x5 &&& (1 : Int32)) = (0 : Int32) then x3 else x1) := ⟨_, rfl⟩
  rw [← e_w2]
  show ∃ t o, Steps p.tables e below (s₁.setTop (mkF m 14 #[.val (.int x1), .val (.int x2), .val (.int x3), .val (.int x4), .val (.int x5), .val (.int w2), .unset, .unset, .unset, .unset, .unset] [])) t ∧ _
  refine own_go (fun _ => XS.iload X0.here hx rfl (hb hby at_14) rfl) ?_
  refine own_go (fun _ => XS.iconst X0.here hx rfl (hb hby at_16)) ?_
  refine own_go (fun _ => XS.iand X0.here hx rfl (hb hby at_17) rfl) ?_
  show ∃ t o, Steps p.tables e below (s₁.setTop (mkF m 18 #[.val (.int x1), .val (.int x2), .val (.int x3), .val (.int x4), .val (.int x5), .val (.int w2), .unset, .unset, .unset, .unset, .unset] [(.int (x5 &&& (2 : Int32)))])) t ∧ _
  have seg4 : ∀ t, Steps p.tables e below (s₁.setTop (mkF m 26 #[.val (.int x1), .val (.int x2), .val (.int x3), .val (.int x4), .val (.int x5), .val (.int w2), .unset, .unset, .unset, .unset, .unset] [(.int (if (x5 &&& (2 : Int32)) = (0 : Int32) then x4 else x2))])) t → Steps p.tables e below (s₁.setTop (mkF m 18 #[.val (.int x1), .val (.int x2), .val (.int x3), .val (.int x4), .val (.int x5), .val (.int w2), .unset, .unset, .unset, .unset, .unset] [(.int (x5 &&& (2 : Int32)))])) t := by
    intro t k
    show Steps p.tables e below (s₁.setTop (mkF m 18 #[.val (.int x1), .val (.int x2), .val (.int x3), .val (.int x4), .val (.int x5), .val (.int w2), .unset, .unset, .unset, .unset, .unset] [(.int (x5 &&& (2 : Int32)))])) _
    by_cases hc5 : (x5 &&& (2 : Int32)) = (0 : Int32)
    · refine XS.ifYes X0.here hx rfl (pc0 := 18) (pc' := 25) rfl (hb hby at_18) rfl ((if0 _ _).trans (teq hc5).1) (by decide) (by decide) ?_
      show Steps p.tables e below (s₁.setTop (mkF m 25 #[.val (.int x1), .val (.int x2), .val (.int x3), .val (.int x4), .val (.int x5), .val (.int w2), .unset, .unset, .unset, .unset, .unset] [])) _
      refine XS.iloadN X0.here hx rfl (hb hby at_25) rfl ?_
      simp only [if_pos hc5] at k
      exact k
    · refine XS.ifNo X0.here hx rfl (hb hby at_18) rfl ((if0 _ _).trans (feq hc5).1) ?_
      show Steps p.tables e below (s₁.setTop (mkF m 21 #[.val (.int x1), .val (.int x2), .val (.int x3), .val (.int x4), .val (.int x5), .val (.int w2), .unset, .unset, .unset, .unset, .unset] [])) _
      refine XS.iloadN X0.here hx rfl (hb hby at_21) rfl ?_
      show Steps p.tables e below (s₁.setTop (mkF m 22 #[.val (.int x1), .val (.int x2), .val (.int x3), .val (.int x4), .val (.int x5), .val (.int w2), .unset, .unset, .unset, .unset, .unset] [(.int x2)])) _
      refine XS.goto X0.here hx rfl (pc0 := 22) (pc' := 26) rfl (hb hby at_22) (by decide) (by decide) ?_
      simp only [if_neg hc5] at k
      exact k
  refine own_go seg4 ?_
  refine own_go (fun _ => XS.istore X0.here hx rfl (hb hby at_26) rfl (l' := #[.val (.int x1), .val (.int x2), .val (.int x3), .val (.int x4), .val (.int x5), .val (.int w2), .val (.int (if (x5 &&& (2 : Int32)) = (0 : Int32) then x4 else x2)), .unset, .unset, .unset, .unset]) rfl) ?_
  show ∃ t o, Steps p.tables e below (s₁.setTop (mkF m 28 #[.val (.int x1), .val (.int x2), .val (.int x3), .val (.int x4), .val (.int x5), .val (.int w2), .val (.int (if (x5 &&& (2 : Int32)) = (0 : Int32) then x4 else x2)), .unset, .unset, .unset, .unset] [])) t ∧ _
  obtain ⟨w3, e_w3⟩ : ∃ z : Int32, z = (if (x5 &&& (2 : Int32)) = (0 : Int32) then x4 else x2) := ⟨_, rfl⟩
  rw [← e_w3]
  show ∃ t o, Steps p.tables e below (s₁.setTop (mkF m 28 #[.val (.int x1), .val (.int x2), .val (.int x3), .val (.int x4), .val (.int x5), .val (.int w2), .val (.int w3), .unset, .unset, .unset, .unset] [])) t ∧ _
  obtain ⟨T6, h6, X6, e6, E6, A6, D6, -, st6⟩ := newO X0 hx hZ hown (hw _ (List.mem_of_getElem? (i := 0) rfl)) (hw _ (List.mem_of_getElem? (i := 1) rfl)) (hw _ (List.mem_of_getElem? (i := 2) rfl)) e0 (g := (mkF m 28 #[.val (.int x1), .val (.int x2), .val (.int x3), .val (.int x4), .val (.int x5), .val (.int w2), .val (.int w3), .unset, .unset, .unset, .unset] [])) rfl (hb hby at_28) (by decide) (by decide)
  obtain ⟨b6, g6⟩ : ∃ z, z = h0.size := ⟨_, rfl⟩
  rw [← g6] at A6 D6 st6
  refine own_go st6 ?_
  have le_6 : h0.size ≤ h6.size := E6.1
  have lt_b6 : b6 < h6.size := A6.lt
  have F_collection_b6 : Fld Z h6 b6 "com/example/ipomoea/ipomoea/store/JobKey" "collection" "Ljava/lang/String;" .null := D6 (Or.inr (hw _ (List.mem_of_getElem? (i := 43) rfl))) (ty := (.object "java/lang/String")) (by decide)
  have F_name_b6 : Fld Z h6 b6 "com/example/ipomoea/ipomoea/store/JobKey" "name" "Ljava/lang/String;" .null := D6 (Or.inr (hw _ (List.mem_of_getElem? (i := 46) rfl))) (ty := (.object "java/lang/String")) (by decide)
  have K6 : Keep h0 h6 [] := Keep.ext (Keep.refl h0 []) E6
  have CH7 := CHr.trans CH0 (CHr.ext E6 CH0.1)
  refine own_go (fun _ => XS.dup X6.here hx rfl (hb hby at_31) rfl rfl) ?_
  refine own_go (fun _ => XS.iloadN X6.here hx rfl (hb hby at_32) rfl) ?_
  show ∃ t o, Steps p.tables e below (T6.setTop (mkF m 33 #[.val (.int x1), .val (.int x2), .val (.int x3), .val (.int x4), .val (.int x5), .val (.int w2), .val (.int w3), .unset, .unset, .unset, .unset] [(.int x1), (.ref b6), (.ref b6)])) t ∧ _
  have F8 : Old Z n0 h6 := (OLD.ext E6)
  have zl9 : n0 ≤ h6.size := by omega
  obtain ⟨_, _, ⟨T10, L10, k10, n10⟩, -, X10, hSn10, hgn10, ⟨Lc10, hQ10, l10, y10, z10, cr10⟩, st10⟩ := callSS X6 hx (y := (⟨"com/example/ipomoea/ipomoea/store/JobKeyEqualsPinLaw", "mk", "(I)Ljava/lang/String;"⟩ : MethodName)) hown (mvT hZ (hw _ (List.mem_of_getElem? (i := 3) rfl))) (mvT hZ (hw _ (List.mem_of_getElem? (i := 4) rfl))) (mvT hZ (hw _ (List.mem_of_getElem? (i := 5) rfl))) (mvT hZ (hw _ (List.mem_of_getElem? (i := 6) rfl))) (by decide) (backOfSH (W := 2) (rmMk l Z a0 hw [] x1 zc h6 n0 zl9 F8 P1 hzc hEL) hZ (hw _ (List.mem_of_getElem? (i := 6) rfl)) (hw _ (List.mem_of_getElem? (i := 5) rfl)) (by decide) (by decide) hEL CH7.1) (g := (mkF m 33 #[.val (.int x1), .val (.int x2), .val (.int x3), .val (.int x4), .val (.int x5), .val (.int w2), .val (.int w3), .unset, .unset, .unset, .unset] [(.int x1), (.ref b6), (.ref b6)])) rfl (by rw [hml]; rfl) (argsL := [(.int x1)]) (rest := [(.ref b6), (.ref b6)]) (lenOf pd__28I_29Ljava_2flang_2fString_3b rfl) rfl (by show 2 * 0 + _ ≤ _; exact Nat.le_of_eq rfl) (hb hby at_33) (fun _ _ => ⟨rfl, e6, (by decide : 1 + 6 ≤ _), (by decide : 2 + 12 ≤ _)⟩)
  dsimp only [Pt.U, Pt.locs, Pt.cells, Pt.slots] at X10 l10 y10 z10 st10 hQ10 hSn10 hgn10 cr10
  subst l10 y10 z10
  have hZ : Z.Warmed39 (s.setVm T10.vm).vm := State.Warmed39.trans (t := s.setVm s.vm) hZ hSn10.1
  have hown : (s.setVm T10.vm).vm.findClass "com/example/ipomoea/ipomoea/store/JobKeyEqualsPinLaw" = some m.cls := by rw [show (s.setVm T10.vm).vm = T10.vm from rfl, hSn10.1.alike.findClass]; exact hown
  have hS : s.Since T10.vm T10.heap.size := foldS (T := T6) hS (Nat.zero_le _) hSn10 hgn10
  have X10 : Stand p l e _ (s.setVm T10.vm) m _ below meth c T10 _ _ _ := X10
  obtain ⟨b_10, rfl, Nq10, Kp10, G10_0, G10_1, H10_0⟩ := hQ10
  have N10 := Fr.app N0 Nq10
  refine own_goT st10 ?_
  have le_10 : h6.size ≤ T10.heap.size := Kp10.1
  have K10 : Keep h0 T10.heap [] := Keep.trans K6 Kp10 all0
  have CH11 := CHr.trans CH7 cr10
  have lt_b_10 : b_10 < T10.heap.size := (G10_0).lt
  refine own_go (fun _ => XS.iloadN X10.here hx rfl (hb hby at_36) rfl) ?_
  show ∃ t o, Steps p.tables e below (T10.setTop (mkF m 37 #[.val (.int x1), .val (.int x2), .val (.int x3), .val (.int x4), .val (.int x5), .val (.int w2), .val (.int w3), .unset, .unset, .unset, .unset] [(.int x2), (.ref b_10), (.ref b6), (.ref b6)])) t ∧ _
  have F12 : Old Z n0 T10.heap := (Old.keep F8 Kp10 all0)
  have zl13 : n0 ≤ T10.heap.size := by omega
  obtain ⟨_, _, ⟨T14, L14, k14, n14⟩, -, X14, hSn14, hgn14, ⟨Lc14, hQ14, l14, y14, z14, cr14⟩, st14⟩ := callSS X10 hx (y := (⟨"com/example/ipomoea/ipomoea/store/JobKeyEqualsPinLaw", "mk", "(I)Ljava/lang/String;"⟩ : MethodName)) hown (mvT hZ (hw _ (List.mem_of_getElem? (i := 3) rfl))) (mvT hZ (hw _ (List.mem_of_getElem? (i := 4) rfl))) (mvT hZ (hw _ (List.mem_of_getElem? (i := 5) rfl))) (mvT hZ (hw _ (List.mem_of_getElem? (i := 6) rfl))) (by decide) (backOfSH (W := 3) (rmMk l Z a0 hw [] x2 zc T10.heap n0 zl13 F12 P1 hzc hEL) hZ (hw _ (List.mem_of_getElem? (i := 6) rfl)) (hw _ (List.mem_of_getElem? (i := 5) rfl)) (by decide) (by decide) hEL CH11.1) (g := (mkF m 37 #[.val (.int x1), .val (.int x2), .val (.int x3), .val (.int x4), .val (.int x5), .val (.int w2), .val (.int w3), .unset, .unset, .unset, .unset] [(.int x2), (.ref b_10), (.ref b6), (.ref b6)])) rfl (by rw [hml]; rfl) (argsL := [(.int x2)]) (rest := [(.ref b_10), (.ref b6), (.ref b6)]) (lenOf pd__28I_29Ljava_2flang_2fString_3b rfl) rfl (by show 2 * 0 + _ ≤ _; exact Nat.le_of_eq rfl) (hb hby at_37) (fun _ _ => ⟨rfl, rfl, (by decide : 7 + 6 ≤ _), (by decide : 14 + 12 ≤ _)⟩)
  dsimp only [Pt.U, Pt.locs, Pt.cells, Pt.slots] at X14 l14 y14 z14 st14 hQ14 hSn14 hgn14 cr14
  subst l14 y14 z14
  have hZ : Z.Warmed39 (s.setVm T14.vm).vm := State.Warmed39.trans (t := s.setVm T10.vm) hZ hSn14.1
  have hown : (s.setVm T14.vm).vm.findClass "com/example/ipomoea/ipomoea/store/JobKeyEqualsPinLaw" = some m.cls := by rw [show (s.setVm T14.vm).vm = T14.vm from rfl, hSn14.1.alike.findClass]; exact hown
  have hS : s.Since T14.vm T14.heap.size := foldS (T := T10) hS (by omega) hSn14 hgn14
  have X14 : Stand p l e _ (s.setVm T14.vm) m _ below meth c T14 _ _ _ := X14
  obtain ⟨b_14, rfl, Nq14, Kp14, G14_0, G14_1, H14_0⟩ := hQ14
  have N14 := Fr.app N10 Nq14
  refine own_goT st14 ?_
  have le_14 : T10.heap.size ≤ T14.heap.size := Kp14.1
  have K14 : Keep h0 T14.heap [] := Keep.trans K10 Kp14 all0
  have CH15 := CHr.trans CH11 cr14
  have lt_b_14 : b_14 < T14.heap.size := (G14_0).lt
  show ∃ t o, Steps p.tables e below (T14.setTop (mkF m 40 #[.val (.int x1), .val (.int x2), .val (.int x3), .val (.int x4), .val (.int x5), .val (.int w2), .val (.int w3), .unset, .unset, .unset, .unset] [(.ref b_14), (.ref b_10), (.ref b6), (.ref b6)])) t ∧ _
  have F16 : Exa Z T14.heap b6 "com/example/ipomoea/ipomoea/store/JobKey" := (Exa.keep (Exa.keep A6 Kp10) Kp14)
  have F17 : Fld Z T14.heap b6 "com/example/ipomoea/ipomoea/store/JobKey" "collection" "Ljava/lang/String;" .null := (Fld.keep (Fld.keep F_collection_b6 Kp10 nin0) Kp14 nin0)
  have F18 : Fld Z T14.heap b6 "com/example/ipomoea/ipomoea/store/JobKey" "name" "Ljava/lang/String;" .null := (Fld.keep (Fld.keep F_name_b6 Kp10 nin0) Kp14 nin0)
  have F19 : Exa Z T14.heap b_10 "java/lang/String" := (Exa.keep G10_0 Kp14)
  have F20 : Old Z n0 T14.heap := (Old.keep F12 Kp14 all0)
  have ge21 : n0 ≤ b6 := by omega
  have zl22 : n0 ≤ T14.heap.size := by omega
  obtain ⟨_, _, ⟨T23, L23, k23, n23⟩, -, X23, hSn23, hgn23, ⟨Lc23, hQ23, l23, y23, z23, cr23⟩, st23⟩ := X14.specialBackS hx (y := (⟨"com/example/ipomoea/ipomoea/store/JobKey", "<init>", "(Ljava/lang/String;Ljava/lang/String;)V"⟩ : MethodName)) rfl hown (mvT hZ (hw _ (List.mem_of_getElem? (i := 32) rfl))) (mvT hZ (hw _ (List.mem_of_getElem? (i := 33) rfl))) (mvT hZ (hw _ (List.mem_of_getElem? (i := 34) rfl))) (by decide) (backOfSH (W := 1) (rmJI l Z a0 hw [] b6 b_10 b_14 T14.heap n0 zl22 F16 F17 F18 F19 G14_0 F20 ge21 hEL) hZ (hw _ (List.mem_of_getElem? (i := 34) rfl)) (hw _ (List.mem_of_getElem? (i := 2) rfl)) (by decide) (by decide) hEL CH15.1) (g := (mkF m 40 #[.val (.int x1), .val (.int x2), .val (.int x3), .val (.int x4), .val (.int x5), .val (.int w2), .val (.int w3), .unset, .unset, .unset, .unset] [(.ref b_14), (.ref b_10), (.ref b6), (.ref b6)])) rfl (by rw [hml]; rfl) (Steps.refl _) (a := b6) (argsL := [(.ref b_10), (.ref b_14)]) (rest := [(.ref b6)]) (lenOf pd__28Ljava_2flang_2fString_3bLjava_2flang_2fString_3b_29V rfl) rfl (by show 2 * 0 + _ ≤ _; exact Nat.le_of_eq rfl) (hb hby at_40) (fun _ _ => ⟨rfl, rfl, (by decide : 13 + 4 ≤ _), (by decide : 26 + 64 ≤ _)⟩)
  dsimp only [Pt.U, Pt.locs, Pt.cells, Pt.slots] at X23 l23 y23 z23 st23 hQ23 hSn23 hgn23 cr23
  subst l23 y23 z23
  have hZ : Z.Warmed39 (s.setVm T23.vm).vm := State.Warmed39.trans (t := s.setVm T14.vm) hZ hSn23.1
  have hown : (s.setVm T23.vm).vm.findClass "com/example/ipomoea/ipomoea/store/JobKeyEqualsPinLaw" = some m.cls := by rw [show (s.setVm T23.vm).vm = T23.vm from rfl, hSn23.1.alike.findClass]; exact hown
  have hS : s.Since T23.vm T23.heap.size := foldS (T := T14) hS (by omega) hSn23 hgn23
  have X23 : Stand p l e _ (s.setVm T23.vm) m _ below meth c T23 _ _ _ := X23
  obtain ⟨rfl, Nq23, Kp23, G23_0, G23_1, G23_2⟩ := hQ23
  have N23 := Fr.app N14 Nq23
  refine own_goT st23 ?_
  have le_23 : T14.heap.size ≤ T23.heap.size := Kp23.1
  have sz24 : h0.size ≤ b6 := by omega
  have K23 : Keep h0 T23.heap [] := Keep.trans K14 Kp23 (allS (Or.inr sz24) all0)
  have CH25 := CHr.trans CH15 cr23
  refine own_go (fun _ => XS.astore X23.here hx rfl (hb hby at_43) rfl rfl (l' := #[.val (.int x1), .val (.int x2), .val (.int x3), .val (.int x4), .val (.int x5), .val (.int w2), .val (.int w3), .val (.ref b6), .unset, .unset, .unset]) rfl) ?_
  refine own_go (fun _ => XS.iload X23.here hx rfl (hb hby at_45) rfl) ?_
  show ∃ t o, Steps p.tables e below (T23.setTop (mkF m 47 #[.val (.int x1), .val (.int x2), .val (.int x3), .val (.int x4), .val (.int x5), .val (.int w2), .val (.int w3), .val (.ref b6), .unset, .unset, .unset] [(.int x5)])) t ∧ _
  refine own_go (fun _ => XS.iconst X23.here hx rfl (hb hby at_47)) ?_
  refine own_go (fun _ => XS.iushr X23.here hx rfl (hb hby at_48) rfl) ?_
  refine own_go (fun _ => XS.iconst X23.here hx rfl (hb hby at_49)) ?_
  show ∃ t o, Steps p.tables e below (T23.setTop (mkF m 50 #[.val (.int x1), .val (.int x2), .val (.int x3), .val (.int x4), .val (.int x5), .val (.int w2), .val (.int w3), .val (.ref b6), .unset, .unset, .unset] [(.int (3 : Int32)), (.int ((x5.toUInt32 >>> ((2 : Int32) &&& 31).toUInt32).toInt32))])) t ∧ _
  refine own_go (fun _ => XS.iand X23.here hx rfl (hb hby at_50) rfl) ?_
  refine own_go (fun _ => XS.istore X23.here hx rfl (hb hby at_51) rfl (l' := #[.val (.int x1), .val (.int x2), .val (.int x3), .val (.int x4), .val (.int x5), .val (.int w2), .val (.int w3), .val (.ref b6), .val (.int (((x5.toUInt32 >>> ((2 : Int32) &&& 31).toUInt32).toInt32) &&& (3 : Int32))), .unset, .unset]) rfl) ?_
  show ∃ t o, Steps p.tables e below (T23.setTop (mkF m 53 #[.val (.int x1), .val (.int x2), .val (.int x3), .val (.int x4), .val (.int x5), .val (.int w2), .val (.int w3), .val (.ref b6), .val (.int (((x5.toUInt32 >>> ((2 : Int32) &&& 31).toUInt32).toInt32) &&& (3 : Int32))), .unset, .unset] [])) t ∧ _
  obtain ⟨kn, e_kn⟩ : ∃ z : Int32, z = (((x5.toUInt32 >>> ((2 : Int32) &&& 31).toUInt32).toInt32) &&& (3 : Int32)) := ⟨_, rfl⟩
  rw [← e_kn]
  show ∃ t o, Steps p.tables e below (T23.setTop (mkF m 53 #[.val (.int x1), .val (.int x2), .val (.int x3), .val (.int x4), .val (.int x5), .val (.int w2), .val (.int w3), .val (.ref b6), .val (.int kn), .unset, .unset] [])) t ∧ _
  refine own_go (fun _ => XS.iload X23.here hx rfl (hb hby at_53) rfl) ?_
  show ∃ t o, Steps p.tables e below (T23.setTop (mkF m 55 #[.val (.int x1), .val (.int x2), .val (.int x3), .val (.int x4), .val (.int x5), .val (.int w2), .val (.int w3), .val (.ref b6), .val (.int kn), .unset, .unset] [(.int kn)])) t ∧ _
  by_cases hc26 : kn = (0 : Int32)
  · refine own_go (fun _ => XS.ifNo X23.here hx rfl (hb hby at_55) rfl ((if0 _ _).trans (teq hc26).2)) ?_
    refine own_go (fun _ => XS.aconstNull X23.here hx rfl (hb hby at_58)) ?_
    refine own_go (fun _ => XS.astore X23.here hx rfl (hb hby at_59) rfl rfl (l' := #[.val (.int x1), .val (.int x2), .val (.int x3), .val (.int x4), .val (.int x5), .val (.int w2), .val (.int w3), .val (.ref b6), .val (.int kn), .val .null, .unset]) rfl) ?_
    show ∃ t o, Steps p.tables e below (T23.setTop (mkF m 61 #[.val (.int x1), .val (.int x2), .val (.int x3), .val (.int x4), .val (.int x5), .val (.int w2), .val (.int w3), .val (.ref b6), .val (.int kn), .val .null, .unset] [])) t ∧ _
    refine own_go (fun _ => XS.iconst X23.here hx rfl (hb hby at_61)) ?_
    refine own_go (fun _ => XS.istore X23.here hx rfl (hb hby at_62) rfl (l' := #[.val (.int x1), .val (.int x2), .val (.int x3), .val (.int x4), .val (.int x5), .val (.int w2), .val (.int w3), .val (.ref b6), .val (.int kn), .val .null, .val (.int (0 : Int32))]) rfl) ?_
    refine own_go (fun _ => XS.goto X23.here hx rfl (pc0 := 64) (pc' := 129) rfl (hb hby at_64) (by decide) (by decide)) ?_
    show ∃ t o, Steps p.tables e below (T23.setTop (mkF m 129 #[.val (.int x1), .val (.int x2), .val (.int x3), .val (.int x4), .val (.int x5), .val (.int w2), .val (.int w3), .val (.ref b6), .val (.int kn), .val .null, .val (.int (0 : Int32))] [])) t ∧ _
    refine own_go (fun _ => XS.aload X23.here hx rfl (hb hby at_129) rfl rfl) ?_
    refine own_go (fun _ => XS.aload X23.here hx rfl (hb hby at_131) rfl rfl) ?_
    show ∃ t o, Steps p.tables e below (T23.setTop (mkF m 133 #[.val (.int x1), .val (.int x2), .val (.int x3), .val (.int x4), .val (.int x5), .val (.int w2), .val (.int w3), .val (.ref b6), .val (.int kn), .val .null, .val (.int (0 : Int32))] [.null, (.ref b6)])) t ∧ _
    have F27 : Old Z n0 T23.heap := (Old.keep F20 Kp23 (allS ge21 all0))
    have zl28 : n0 ≤ T23.heap.size := by omega
    obtain ⟨cq29, kq29, q29a, q29b, q29c⟩ := isOf hZ rfl G23_0
    obtain ⟨_, _, ⟨T29, L29, k29, n29⟩, -, X29, ⟨Lc29, hQ29, l29, y29, z29⟩, st29⟩ := X23.virtualBack hx (y := (⟨"com/example/ipomoea/ipomoea/store/JobKey", "equals", "(Ljava/lang/Object;)Z"⟩ : MethodName)) (z := (⟨"com/example/ipomoea/ipomoea/store/JobKey", "equals", "(Ljava/lang/Object;)Z"⟩ : MethodName)) hown (mvT hZ (hw _ (List.mem_of_getElem? (i := 47) rfl))) (mvT hZ (hw _ (List.mem_of_getElem? (i := 48) rfl))) (notFace_of_selects (args := #[]) (mvT hZ (hw _ (List.mem_of_getElem? (i := 50) rfl)))) (mvT hZ (hw _ (List.mem_of_getElem? (i := 50) rfl))) (mvT hZ (hw _ (List.mem_of_getElem? (i := 49) rfl))) (by decide) (backOf (W := 0) (rmEqN l Z a0 hw [] b6 T23.heap n0 zl28 F27) hZ (hw _ (List.mem_of_getElem? (i := 51) rfl)) (hw _ (List.mem_of_getElem? (i := 2) rfl)) (by decide) (by decide)) q29a q29c (g := (mkF m 133 #[.val (.int x1), .val (.int x2), .val (.int x3), .val (.int x4), .val (.int x5), .val (.int w2), .val (.int w3), .val (.ref b6), .val (.int kn), .val .null, .val (.int (0 : Int32))] [.null, (.ref b6)])) rfl (by rw [hml]; rfl) (Steps.refl _) (argsL := [.null]) (rest := []) (lenOf pd__28Ljava_2flang_2fObject_3b_29Z rfl) rfl (by show 2 * 0 + _ ≤ _; exact Nat.le_of_eq rfl) (hb hby at_133) (fun _ _ => ⟨rfl, rfl, (by decide : 17 + 0 ≤ _), (by decide : 90 + 0 ≤ _)⟩)
    dsimp only [Pt.U, Pt.locs, Pt.cells, Pt.slots] at X29 l29 y29 z29 st29 hQ29
    subst l29 y29 z29
    obtain ⟨rfl, Nq29, e29⟩ := hQ29
    have N29 := Fr.app N23 Nq29
    refine own_goT st29 ?_
    refine own_go (fun _ => XS.iload X29.here hx rfl (hb hby at_136) rfl) ?_
    show ∃ t o, Steps p.tables e below (T29.setTop (mkF m 138 #[.val (.int x1), .val (.int x2), .val (.int x3), .val (.int x4), .val (.int x5), .val (.int w2), .val (.int w3), .val (.ref b6), .val (.int kn), .val .null, .val (.int (0 : Int32))] [(.int (0 : Int32)), (.int (0 : Int32))])) t ∧ _
    refine own_go (fun _ => XS.icmpNo X29.here hx rfl (hb hby at_138) rfl (teq (by decide : (0 : Int32) = (0 : Int32))).2) ?_
    refine own_go (fun _ => XS.iconst X29.here hx rfl (hb hby at_141)) ?_
    refine own_go (fun _ => XS.goto X29.here hx rfl (pc0 := 142) (pc' := 146) rfl (hb hby at_142) (by decide) (by decide)) ?_
    show ∃ t o, Steps p.tables e below (T29.setTop (mkF m 146 #[.val (.int x1), .val (.int x2), .val (.int x3), .val (.int x4), .val (.int x5), .val (.int w2), .val (.int w3), .val (.ref b6), .val (.int kn), .val .null, .val (.int (0 : Int32))] [(.int (1 : Int32))])) t ∧ _
    obtain ⟨fs, hr, hrun, hended, hW⟩ := Jvm.Stand.leaveW X29 hS (by rw [e29]; omega) (v := some (.int (1 : Int32))) (fun h => by rw [Bd.returns] at h; cases h)
    have CHz : CHr Z own_EL s.vm s.heap T29.vm T29.heap := by rw [hh, e29]; exact CHr.trans CH25 (CHv.at X29 hZ hEL CH25.1)
    refine ⟨_, _, ?_, hrun, hended, _, _, rfl, ?_, CHz, ⟨hW.1, hW.2.1, hW.2.2.1, hW.2.2.2.mono (by decide) (by decide)⟩⟩
    · exact retN X29 hx (t := .boolean) Bd.returns (by simp) (hb hby at_146) hr
    · show Q_rm0 Z _ _ _ _ _ _ h0 n0 _ T29.heap _
      rw [e29]
      exact ⟨rfl, N29, K23⟩
  · refine own_go (fun _ => XS.ifYes X23.here hx rfl (pc0 := 55) (pc' := 67) rfl (hb hby at_55) rfl ((if0 _ _).trans (feq hc26).2) (by decide) (by decide)) ?_
    refine own_go (fun _ => XS.iload X23.here hx rfl (hb hby at_67) rfl) ?_
    refine own_go (fun _ => XS.iconst X23.here hx rfl (hb hby at_69)) ?_
    show ∃ t o, Steps p.tables e below (T23.setTop (mkF m 70 #[.val (.int x1), .val (.int x2), .val (.int x3), .val (.int x4), .val (.int x5), .val (.int w2), .val (.int w3), .val (.ref b6), .val (.int kn), .unset, .unset] [(.int (1 : Int32)), (.int kn)])) t ∧ _
    by_cases hc30 : kn = (1 : Int32)
    · refine own_go (fun _ => XS.icmpNo X23.here hx rfl (hb hby at_70) rfl (teq hc30).2) ?_
      refine own_go (fun _ => XS.iloadN X23.here hx rfl (hb hby at_73) rfl) ?_
      show ∃ t o, Steps p.tables e below (T23.setTop (mkF m 74 #[.val (.int x1), .val (.int x2), .val (.int x3), .val (.int x4), .val (.int x5), .val (.int w2), .val (.int w3), .val (.ref b6), .val (.int kn), .unset, .unset] [(.int x1)])) t ∧ _
      have F31 : Old Z n0 T23.heap := (Old.keep F20 Kp23 (allS ge21 all0))
      have zl32 : n0 ≤ T23.heap.size := by omega
      obtain ⟨_, _, ⟨T33, L33, k33, n33⟩, -, X33, hSn33, hgn33, ⟨Lc33, hQ33, l33, y33, z33, cr33⟩, st33⟩ := callSS X23 hx (y := (⟨"com/example/ipomoea/ipomoea/store/JobKeyEqualsPinLaw", "mk", "(I)Ljava/lang/String;"⟩ : MethodName)) hown (mvT hZ (hw _ (List.mem_of_getElem? (i := 3) rfl))) (mvT hZ (hw _ (List.mem_of_getElem? (i := 4) rfl))) (mvT hZ (hw _ (List.mem_of_getElem? (i := 5) rfl))) (mvT hZ (hw _ (List.mem_of_getElem? (i := 6) rfl))) (by decide) (backOfSH (W := 0) (rmMk l Z a0 hw [] x1 zc T23.heap n0 zl32 F31 P1 hzc hEL) hZ (hw _ (List.mem_of_getElem? (i := 6) rfl)) (hw _ (List.mem_of_getElem? (i := 5) rfl)) (by decide) (by decide) hEL CH25.1) (g := (mkF m 74 #[.val (.int x1), .val (.int x2), .val (.int x3), .val (.int x4), .val (.int x5), .val (.int w2), .val (.int w3), .val (.ref b6), .val (.int kn), .unset, .unset] [(.int x1)])) rfl (by rw [hml]; rfl) (argsL := [(.int x1)]) (rest := []) (lenOf pd__28I_29Ljava_2flang_2fString_3b rfl) rfl (by show 2 * 0 + _ ≤ _; exact Nat.le_of_eq rfl) (hb hby at_74) (fun _ _ => ⟨rfl, rfl, (by decide : 17 + 6 ≤ _), (by decide : 90 + 12 ≤ _)⟩)
      dsimp only [Pt.U, Pt.locs, Pt.cells, Pt.slots] at X33 l33 y33 z33 st33 hQ33 hSn33 hgn33 cr33
      subst l33 y33 z33
      have hZ : Z.Warmed39 (s.setVm T33.vm).vm := State.Warmed39.trans (t := s.setVm T23.vm) hZ hSn33.1
      have hown : (s.setVm T33.vm).vm.findClass "com/example/ipomoea/ipomoea/store/JobKeyEqualsPinLaw" = some m.cls := by rw [show (s.setVm T33.vm).vm = T33.vm from rfl, hSn33.1.alike.findClass]; exact hown
      have hS : s.Since T33.vm T33.heap.size := foldS (T := T23) hS (by omega) hSn33 hgn33
      have X33 : Stand p l e _ (s.setVm T33.vm) m _ below meth c T33 _ _ _ := X33
      obtain ⟨b_33, rfl, Nq33, Kp33, G33_0, G33_1, H33_0⟩ := hQ33
      have N33 := Fr.app N23 Nq33
      refine own_goT st33 ?_
      have le_33 : T23.heap.size ≤ T33.heap.size := Kp33.1
      have K33 : Keep h0 T33.heap [] := Keep.trans K23 Kp33 all0
      have CH34 := CHr.trans CH25 cr33
      have lt_b_33 : b_33 < T33.heap.size := (G33_0).lt
      refine own_go (fun _ => XS.astore X33.here hx rfl (hb hby at_77) rfl rfl (l' := #[.val (.int x1), .val (.int x2), .val (.int x3), .val (.int x4), .val (.int x5), .val (.int w2), .val (.int w3), .val (.ref b6), .val (.int kn), .val (.ref b_33), .unset]) rfl) ?_
      refine own_go (fun _ => XS.iconst X33.here hx rfl (hb hby at_79)) ?_
      show ∃ t o, Steps p.tables e below (T33.setTop (mkF m 80 #[.val (.int x1), .val (.int x2), .val (.int x3), .val (.int x4), .val (.int x5), .val (.int w2), .val (.int w3), .val (.ref b6), .val (.int kn), .val (.ref b_33), .unset] [(.int (0 : Int32))])) t ∧ _
      refine own_go (fun _ => XS.istore X33.here hx rfl (hb hby at_80) rfl (l' := #[.val (.int x1), .val (.int x2), .val (.int x3), .val (.int x4), .val (.int x5), .val (.int w2), .val (.int w3), .val (.ref b6), .val (.int kn), .val (.ref b_33), .val (.int (0 : Int32))]) rfl) ?_
      refine own_go (fun _ => XS.goto X33.here hx rfl (pc0 := 82) (pc' := 129) rfl (hb hby at_82) (by decide) (by decide)) ?_
      refine own_go (fun _ => XS.aload X33.here hx rfl (hb hby at_129) rfl rfl) ?_
      show ∃ t o, Steps p.tables e below (T33.setTop (mkF m 131 #[.val (.int x1), .val (.int x2), .val (.int x3), .val (.int x4), .val (.int x5), .val (.int w2), .val (.int w3), .val (.ref b6), .val (.int kn), .val (.ref b_33), .val (.int (0 : Int32))] [(.ref b6)])) t ∧ _
      refine own_go (fun _ => XS.aload X33.here hx rfl (hb hby at_131) rfl rfl) ?_
      show ∃ t o, Steps p.tables e below (T33.setTop (mkF m 133 #[.val (.int x1), .val (.int x2), .val (.int x3), .val (.int x4), .val (.int x5), .val (.int w2), .val (.int w3), .val (.ref b6), .val (.int kn), .val (.ref b_33), .val (.int (0 : Int32))] [(.ref b_33), (.ref b6)])) t ∧ _
      have F35 : Exa Z T33.heap b6 "com/example/ipomoea/ipomoea/store/JobKey" := (Exa.keep G23_0 Kp33)
      have F36 : Old Z n0 T33.heap := (Old.keep F31 Kp33 all0)
      have zl37 : n0 ≤ T33.heap.size := by omega
      obtain ⟨cq38, kq38, q38a, q38b, q38c⟩ := isOf hZ rfl F35
      obtain ⟨_, _, ⟨T38, L38, k38, n38⟩, -, X38, ⟨Lc38, hQ38, l38, y38, z38⟩, st38⟩ := X33.virtualBack hx (y := (⟨"com/example/ipomoea/ipomoea/store/JobKey", "equals", "(Ljava/lang/Object;)Z"⟩ : MethodName)) (z := (⟨"com/example/ipomoea/ipomoea/store/JobKey", "equals", "(Ljava/lang/Object;)Z"⟩ : MethodName)) hown (mvT hZ (hw _ (List.mem_of_getElem? (i := 47) rfl))) (mvT hZ (hw _ (List.mem_of_getElem? (i := 48) rfl))) (notFace_of_selects (args := #[]) (mvT hZ (hw _ (List.mem_of_getElem? (i := 50) rfl)))) (mvT hZ (hw _ (List.mem_of_getElem? (i := 50) rfl))) (mvT hZ (hw _ (List.mem_of_getElem? (i := 49) rfl))) (by decide) (backOf (W := 0) (rmEqS l Z a0 hw [] b6 b_33 T33.heap n0 zl37 G33_0 F36) hZ (hw _ (List.mem_of_getElem? (i := 51) rfl)) (hw _ (List.mem_of_getElem? (i := 2) rfl)) (by decide) (by decide)) q38a q38c (g := (mkF m 133 #[.val (.int x1), .val (.int x2), .val (.int x3), .val (.int x4), .val (.int x5), .val (.int w2), .val (.int w3), .val (.ref b6), .val (.int kn), .val (.ref b_33), .val (.int (0 : Int32))] [(.ref b_33), (.ref b6)])) rfl (by rw [hml]; rfl) (Steps.refl _) (argsL := [(.ref b_33)]) (rest := []) (lenOf pd__28Ljava_2flang_2fObject_3b_29Z rfl) rfl (by show 2 * 0 + _ ≤ _; exact Nat.le_of_eq rfl) (hb hby at_133) (fun _ _ => ⟨rfl, rfl, (by decide : 23 + 0 ≤ _), (by decide : 102 + 0 ≤ _)⟩)
      dsimp only [Pt.U, Pt.locs, Pt.cells, Pt.slots] at X38 l38 y38 z38 st38 hQ38
      subst l38 y38 z38
      obtain ⟨rfl, Nq38, e38⟩ := hQ38
      have N38 := Fr.app N33 Nq38
      refine own_goT st38 ?_
      refine own_go (fun _ => XS.iload X38.here hx rfl (hb hby at_136) rfl) ?_
      show ∃ t o, Steps p.tables e below (T38.setTop (mkF m 138 #[.val (.int x1), .val (.int x2), .val (.int x3), .val (.int x4), .val (.int x5), .val (.int w2), .val (.int w3), .val (.ref b6), .val (.int kn), .val (.ref b_33), .val (.int (0 : Int32))] [(.int (0 : Int32)), (.int (0 : Int32))])) t ∧ _
      refine own_go (fun _ => XS.icmpNo X38.here hx rfl (hb hby at_138) rfl (teq (by decide : (0 : Int32) = (0 : Int32))).2) ?_
      refine own_go (fun _ => XS.iconst X38.here hx rfl (hb hby at_141)) ?_
      refine own_go (fun _ => XS.goto X38.here hx rfl (pc0 := 142) (pc' := 146) rfl (hb hby at_142) (by decide) (by decide)) ?_
      show ∃ t o, Steps p.tables e below (T38.setTop (mkF m 146 #[.val (.int x1), .val (.int x2), .val (.int x3), .val (.int x4), .val (.int x5), .val (.int w2), .val (.int w3), .val (.ref b6), .val (.int kn), .val (.ref b_33), .val (.int (0 : Int32))] [(.int (1 : Int32))])) t ∧ _
      obtain ⟨fs, hr, hrun, hended, hW⟩ := Jvm.Stand.leaveW X38 hS (by rw [e38]; omega) (v := some (.int (1 : Int32))) (fun h => by rw [Bd.returns] at h; cases h)
      have CHz : CHr Z own_EL s.vm s.heap T38.vm T38.heap := by rw [hh, e38]; exact CHr.trans CH34 (CHv.at X38 hZ hEL CH34.1)
      refine ⟨_, _, ?_, hrun, hended, _, _, rfl, ?_, CHz, ⟨hW.1, hW.2.1, hW.2.2.1, hW.2.2.2.mono (by decide) (by decide)⟩⟩
      · exact retN X38 hx (t := .boolean) Bd.returns (by simp) (hb hby at_146) hr
      · show Q_rm0 Z _ _ _ _ _ _ h0 n0 _ T38.heap _
        rw [e38]
        exact ⟨rfl, N38, K33⟩
    · refine own_go (fun _ => XS.icmpYes X23.here hx rfl (pc0 := 70) (pc' := 85) rfl (hb hby at_70) rfl (feq hc30).2 (by decide) (by decide)) ?_
      show ∃ t o, Steps p.tables e below (T23.setTop (mkF m 85 #[.val (.int x1), .val (.int x2), .val (.int x3), .val (.int x4), .val (.int x5), .val (.int w2), .val (.int w3), .val (.ref b6), .val (.int kn), .unset, .unset] [])) t ∧ _
      obtain ⟨T39, h39, X39, e39, E39, A39, D39, -, st39⟩ := newO X23 hx hZ hown (hw _ (List.mem_of_getElem? (i := 0) rfl)) (hw _ (List.mem_of_getElem? (i := 1) rfl)) (hw _ (List.mem_of_getElem? (i := 2) rfl)) rfl (g := (mkF m 85 #[.val (.int x1), .val (.int x2), .val (.int x3), .val (.int x4), .val (.int x5), .val (.int w2), .val (.int w3), .val (.ref b6), .val (.int kn), .unset, .unset] [])) rfl (hb hby at_85) (by decide) (by decide)
      obtain ⟨b39, g39⟩ : ∃ z, z = T23.heap.size := ⟨_, rfl⟩
      rw [← g39] at A39 D39 st39
      refine own_go st39 ?_
      have le_39 : T23.heap.size ≤ h39.size := E39.1
      have lt_b39 : b39 < h39.size := A39.lt
      have F_collection_b39 : Fld Z h39 b39 "com/example/ipomoea/ipomoea/store/JobKey" "collection" "Ljava/lang/String;" .null := D39 (Or.inr (hw _ (List.mem_of_getElem? (i := 43) rfl))) (ty := (.object "java/lang/String")) (by decide)
      have F_name_b39 : Fld Z h39 b39 "com/example/ipomoea/ipomoea/store/JobKey" "name" "Ljava/lang/String;" .null := D39 (Or.inr (hw _ (List.mem_of_getElem? (i := 46) rfl))) (ty := (.object "java/lang/String")) (by decide)
      have K39 : Keep h0 h39 [] := Keep.ext K23 E39
      have CH40 := CHr.trans CH25 (CHr.ext E39 CH25.1)
      refine own_go (fun _ => XS.dup X39.here hx rfl (hb hby at_88) rfl rfl) ?_
      refine own_go (fun _ => XS.iload X39.here hx rfl (hb hby at_89) rfl) ?_
      show ∃ t o, Steps p.tables e below (T39.setTop (mkF m 91 #[.val (.int x1), .val (.int x2), .val (.int x3), .val (.int x4), .val (.int x5), .val (.int w2), .val (.int w3), .val (.ref b6), .val (.int kn), .unset, .unset] [(.int w2), (.ref b39), (.ref b39)])) t ∧ _
      have F41 : Old Z n0 h39 := ((Old.keep F20 Kp23 (allS ge21 all0)).ext E39)
      have zl42 : n0 ≤ h39.size := by omega
      obtain ⟨_, _, ⟨T43, L43, k43, n43⟩, -, X43, hSn43, hgn43, ⟨Lc43, hQ43, l43, y43, z43, cr43⟩, st43⟩ := callSS X39 hx (y := (⟨"com/example/ipomoea/ipomoea/store/JobKeyEqualsPinLaw", "mk", "(I)Ljava/lang/String;"⟩ : MethodName)) hown (mvT hZ (hw _ (List.mem_of_getElem? (i := 3) rfl))) (mvT hZ (hw _ (List.mem_of_getElem? (i := 4) rfl))) (mvT hZ (hw _ (List.mem_of_getElem? (i := 5) rfl))) (mvT hZ (hw _ (List.mem_of_getElem? (i := 6) rfl))) (by decide) (backOfSH (W := 2) (rmMk l Z a0 hw [] w2 zc h39 n0 zl42 F41 P1 hzc hEL) hZ (hw _ (List.mem_of_getElem? (i := 6) rfl)) (hw _ (List.mem_of_getElem? (i := 5) rfl)) (by decide) (by decide) hEL CH40.1) (g := (mkF m 91 #[.val (.int x1), .val (.int x2), .val (.int x3), .val (.int x4), .val (.int x5), .val (.int w2), .val (.int w3), .val (.ref b6), .val (.int kn), .unset, .unset] [(.int w2), (.ref b39), (.ref b39)])) rfl (by rw [hml]; rfl) (argsL := [(.int w2)]) (rest := [(.ref b39), (.ref b39)]) (lenOf pd__28I_29Ljava_2flang_2fString_3b rfl) rfl (by show 2 * 0 + _ ≤ _; exact Nat.le_of_eq rfl) (hb hby at_91) (fun _ _ => ⟨rfl, e39, (by decide : 18 + 6 ≤ _), (by decide : 92 + 12 ≤ _)⟩)
      dsimp only [Pt.U, Pt.locs, Pt.cells, Pt.slots] at X43 l43 y43 z43 st43 hQ43 hSn43 hgn43 cr43
      subst l43 y43 z43
      have hZ : Z.Warmed39 (s.setVm T43.vm).vm := State.Warmed39.trans (t := s.setVm T23.vm) hZ hSn43.1
      have hown : (s.setVm T43.vm).vm.findClass "com/example/ipomoea/ipomoea/store/JobKeyEqualsPinLaw" = some m.cls := by rw [show (s.setVm T43.vm).vm = T43.vm from rfl, hSn43.1.alike.findClass]; exact hown
      have hS : s.Since T43.vm T43.heap.size := foldS (T := T39) hS (by rw [e39]; omega) hSn43 hgn43
      have X43 : Stand p l e _ (s.setVm T43.vm) m _ below meth c T43 _ _ _ := X43
      obtain ⟨b_43, rfl, Nq43, Kp43, G43_0, G43_1, H43_0⟩ := hQ43
      have N43 := Fr.app N23 Nq43
      refine own_goT st43 ?_
      have le_43 : h39.size ≤ T43.heap.size := Kp43.1
      have K43 : Keep h0 T43.heap [] := Keep.trans K39 Kp43 all0
      have CH44 := CHr.trans CH40 cr43
      have lt_b_43 : b_43 < T43.heap.size := (G43_0).lt
      refine own_go (fun _ => XS.iload X43.here hx rfl (hb hby at_94) rfl) ?_
      show ∃ t o, Steps p.tables e below (T43.setTop (mkF m 96 #[.val (.int x1), .val (.int x2), .val (.int x3), .val (.int x4), .val (.int x5), .val (.int w2), .val (.int w3), .val (.ref b6), .val (.int kn), .unset, .unset] [(.int w3), (.ref b_43), (.ref b39), (.ref b39)])) t ∧ _
      have F45 : Old Z n0 T43.heap := (Old.keep F41 Kp43 all0)
      have zl46 : n0 ≤ T43.heap.size := by omega
      obtain ⟨_, _, ⟨T47, L47, k47, n47⟩, -, X47, hSn47, hgn47, ⟨Lc47, hQ47, l47, y47, z47, cr47⟩, st47⟩ := callSS X43 hx (y := (⟨"com/example/ipomoea/ipomoea/store/JobKeyEqualsPinLaw", "mk", "(I)Ljava/lang/String;"⟩ : MethodName)) hown (mvT hZ (hw _ (List.mem_of_getElem? (i := 3) rfl))) (mvT hZ (hw _ (List.mem_of_getElem? (i := 4) rfl))) (mvT hZ (hw _ (List.mem_of_getElem? (i := 5) rfl))) (mvT hZ (hw _ (List.mem_of_getElem? (i := 6) rfl))) (by decide) (backOfSH (W := 3) (rmMk l Z a0 hw [] w3 zc T43.heap n0 zl46 F45 P1 hzc hEL) hZ (hw _ (List.mem_of_getElem? (i := 6) rfl)) (hw _ (List.mem_of_getElem? (i := 5) rfl)) (by decide) (by decide) hEL CH44.1) (g := (mkF m 96 #[.val (.int x1), .val (.int x2), .val (.int x3), .val (.int x4), .val (.int x5), .val (.int w2), .val (.int w3), .val (.ref b6), .val (.int kn), .unset, .unset] [(.int w3), (.ref b_43), (.ref b39), (.ref b39)])) rfl (by rw [hml]; rfl) (argsL := [(.int w3)]) (rest := [(.ref b_43), (.ref b39), (.ref b39)]) (lenOf pd__28I_29Ljava_2flang_2fString_3b rfl) rfl (by show 2 * 0 + _ ≤ _; exact Nat.le_of_eq rfl) (hb hby at_96) (fun _ _ => ⟨rfl, rfl, (by decide : 24 + 6 ≤ _), (by decide : 104 + 12 ≤ _)⟩)
      dsimp only [Pt.U, Pt.locs, Pt.cells, Pt.slots] at X47 l47 y47 z47 st47 hQ47 hSn47 hgn47 cr47
      subst l47 y47 z47
      have hZ : Z.Warmed39 (s.setVm T47.vm).vm := State.Warmed39.trans (t := s.setVm T43.vm) hZ hSn47.1
      have hown : (s.setVm T47.vm).vm.findClass "com/example/ipomoea/ipomoea/store/JobKeyEqualsPinLaw" = some m.cls := by rw [show (s.setVm T47.vm).vm = T47.vm from rfl, hSn47.1.alike.findClass]; exact hown
      have hS : s.Since T47.vm T47.heap.size := foldS (T := T43) hS (by omega) hSn47 hgn47
      have X47 : Stand p l e _ (s.setVm T47.vm) m _ below meth c T47 _ _ _ := X47
      obtain ⟨b_47, rfl, Nq47, Kp47, G47_0, G47_1, H47_0⟩ := hQ47
      have N47 := Fr.app N43 Nq47
      refine own_goT st47 ?_
      have le_47 : T43.heap.size ≤ T47.heap.size := Kp47.1
      have K47 : Keep h0 T47.heap [] := Keep.trans K43 Kp47 all0
      have CH48 := CHr.trans CH44 cr47
      have lt_b_47 : b_47 < T47.heap.size := (G47_0).lt
      show ∃ t o, Steps p.tables e below (T47.setTop (mkF m 99 #[.val (.int x1), .val (.int x2), .val (.int x3), .val (.int x4), .val (.int x5), .val (.int w2), .val (.int w3), .val (.ref b6), .val (.int kn), .unset, .unset] [(.ref b_47), (.ref b_43), (.ref b39), (.ref b39)])) t ∧ _
      have F49 : Exa Z T47.heap b39 "com/example/ipomoea/ipomoea/store/JobKey" := (Exa.keep (Exa.keep A39 Kp43) Kp47)
      have F50 : Fld Z T47.heap b39 "com/example/ipomoea/ipomoea/store/JobKey" "collection" "Ljava/lang/String;" .null := (Fld.keep (Fld.keep F_collection_b39 Kp43 nin0) Kp47 nin0)
      have F51 : Fld Z T47.heap b39 "com/example/ipomoea/ipomoea/store/JobKey" "name" "Ljava/lang/String;" .null := (Fld.keep (Fld.keep F_name_b39 Kp43 nin0) Kp47 nin0)
      have F52 : Exa Z T47.heap b_43 "java/lang/String" := (Exa.keep G43_0 Kp47)
      have F53 : Old Z n0 T47.heap := (Old.keep F45 Kp47 all0)
      have ge54 : n0 ≤ b39 := by omega
      have zl55 : n0 ≤ T47.heap.size := by omega
      obtain ⟨_, _, ⟨T56, L56, k56, n56⟩, -, X56, hSn56, hgn56, ⟨Lc56, hQ56, l56, y56, z56, cr56⟩, st56⟩ := X47.specialBackS hx (y := (⟨"com/example/ipomoea/ipomoea/store/JobKey", "<init>", "(Ljava/lang/String;Ljava/lang/String;)V"⟩ : MethodName)) rfl hown (mvT hZ (hw _ (List.mem_of_getElem? (i := 32) rfl))) (mvT hZ (hw _ (List.mem_of_getElem? (i := 33) rfl))) (mvT hZ (hw _ (List.mem_of_getElem? (i := 34) rfl))) (by decide) (backOfSH (W := 1) (rmJI l Z a0 hw [] b39 b_43 b_47 T47.heap n0 zl55 F49 F50 F51 F52 G47_0 F53 ge54 hEL) hZ (hw _ (List.mem_of_getElem? (i := 34) rfl)) (hw _ (List.mem_of_getElem? (i := 2) rfl)) (by decide) (by decide) hEL CH48.1) (g := (mkF m 99 #[.val (.int x1), .val (.int x2), .val (.int x3), .val (.int x4), .val (.int x5), .val (.int w2), .val (.int w3), .val (.ref b6), .val (.int kn), .unset, .unset] [(.ref b_47), (.ref b_43), (.ref b39), (.ref b39)])) rfl (by rw [hml]; rfl) (Steps.refl _) (a := b39) (argsL := [(.ref b_43), (.ref b_47)]) (rest := [(.ref b39)]) (lenOf pd__28Ljava_2flang_2fString_3bLjava_2flang_2fString_3b_29V rfl) rfl (by show 2 * 0 + _ ≤ _; exact Nat.le_of_eq rfl) (hb hby at_99) (fun _ _ => ⟨rfl, rfl, (by decide : 30 + 4 ≤ _), (by decide : 116 + 64 ≤ _)⟩)
      dsimp only [Pt.U, Pt.locs, Pt.cells, Pt.slots] at X56 l56 y56 z56 st56 hQ56 hSn56 hgn56 cr56
      subst l56 y56 z56
      have hZ : Z.Warmed39 (s.setVm T56.vm).vm := State.Warmed39.trans (t := s.setVm T47.vm) hZ hSn56.1
      have hown : (s.setVm T56.vm).vm.findClass "com/example/ipomoea/ipomoea/store/JobKeyEqualsPinLaw" = some m.cls := by rw [show (s.setVm T56.vm).vm = T56.vm from rfl, hSn56.1.alike.findClass]; exact hown
      have hS : s.Since T56.vm T56.heap.size := foldS (T := T47) hS (by omega) hSn56 hgn56
      have X56 : Stand p l e _ (s.setVm T56.vm) m _ below meth c T56 _ _ _ := X56
      obtain ⟨rfl, Nq56, Kp56, G56_0, G56_1, G56_2⟩ := hQ56
      have N56 := Fr.app N47 Nq56
      refine own_goT st56 ?_
      have le_56 : T47.heap.size ≤ T56.heap.size := Kp56.1
      have sz57 : h0.size ≤ b39 := by omega
      have K56 : Keep h0 T56.heap [] := Keep.trans K47 Kp56 (allS (Or.inr sz57) all0)
      have CH58 := CHr.trans CH48 cr56
      refine own_go (fun _ => XS.astore X56.here hx rfl (hb hby at_102) rfl rfl (l' := #[.val (.int x1), .val (.int x2), .val (.int x3), .val (.int x4), .val (.int x5), .val (.int w2), .val (.int w3), .val (.ref b6), .val (.int kn), .val (.ref b39), .unset]) rfl) ?_
      refine own_go (fun _ => XS.iloadN X56.here hx rfl (hb hby at_104) rfl) ?_
      show ∃ t o, Steps p.tables e below (T56.setTop (mkF m 105 #[.val (.int x1), .val (.int x2), .val (.int x3), .val (.int x4), .val (.int x5), .val (.int w2), .val (.int w3), .val (.ref b6), .val (.int kn), .val (.ref b39), .unset] [(.int x1)])) t ∧ _
      refine own_go (fun _ => XS.iload X56.here hx rfl (hb hby at_105) rfl) ?_
      show ∃ t o, Steps p.tables e below (T56.setTop (mkF m 107 #[.val (.int x1), .val (.int x2), .val (.int x3), .val (.int x4), .val (.int x5), .val (.int w2), .val (.int w3), .val (.ref b6), .val (.int kn), .val (.ref b39), .unset] [(.int w2), (.int x1)])) t ∧ _
      have F59 : Old Z n0 T56.heap := (Old.keep F53 Kp56 (allS ge54 all0))
      have zl60 : n0 ≤ T56.heap.size := by omega
      obtain ⟨_, _, ⟨T61, L61, k61, n61⟩, -, X61, ⟨Lc61, hQ61, l61, y61, z61⟩, st61⟩ := Jvm.LawKit.callS X56 hx (y := (⟨"com/example/ipomoea/ipomoea/store/JobKeyEqualsPinLaw", "same", "(II)Z"⟩ : MethodName)) hown (mvT hZ (hw _ (List.mem_of_getElem? (i := 55) rfl))) (mvT hZ (hw _ (List.mem_of_getElem? (i := 56) rfl))) (mvT hZ (hw _ (List.mem_of_getElem? (i := 5) rfl))) (mvT hZ (hw _ (List.mem_of_getElem? (i := 57) rfl))) (by decide) (backOf (W := 0) (rmSame l Z a0 hw [] x1 w2 T56.heap n0 zl60 F59) hZ (hw _ (List.mem_of_getElem? (i := 57) rfl)) (hw _ (List.mem_of_getElem? (i := 5) rfl)) (by decide) (by decide)) (g := (mkF m 107 #[.val (.int x1), .val (.int x2), .val (.int x3), .val (.int x4), .val (.int x5), .val (.int w2), .val (.int w3), .val (.ref b6), .val (.int kn), .val (.ref b39), .unset] [(.int w2), (.int x1)])) rfl (by rw [hml]; rfl) (argsL := [(.int x1), (.int w2)]) (rest := []) (lenOf pd__28II_29Z rfl) rfl (by show 2 * 0 + _ ≤ _; exact Nat.le_of_eq rfl) (hb hby at_107) (fun _ _ => ⟨rfl, rfl, (by decide : 34 + 0 ≤ _), (by decide : 180 + 0 ≤ _)⟩)
      dsimp only [Pt.U, Pt.locs, Pt.cells, Pt.slots] at X61 l61 y61 z61 st61 hQ61
      subst l61 y61 z61
      obtain ⟨r1_61, rfl, Nq61, e61, H61_0⟩ := hQ61
      have N61 := Fr.app N56 Nq61
      refine own_go st61 ?_
      show ∃ t o, Steps p.tables e below (T61.setTop (mkF m 110 #[.val (.int x1), .val (.int x2), .val (.int x3), .val (.int x4), .val (.int x5), .val (.int w2), .val (.int w3), .val (.ref b6), .val (.int kn), .val (.ref b39), .unset] [(.int r1_61)])) t ∧ _
      rcases H61_0 with ⟨hr1, hs1⟩ | ⟨hr1, hs1⟩
      · rw [hr1]
        show ∃ t o, Steps p.tables e below (T61.setTop (mkF m 110 #[.val (.int x1), .val (.int x2), .val (.int x3), .val (.int x4), .val (.int x5), .val (.int w2), .val (.int w3), .val (.ref b6), .val (.int kn), .val (.ref b39), .unset] [(.int (1 : Int32))])) t ∧ _
        refine own_go (fun _ => XS.ifNo X61.here hx rfl (hb hby at_110) rfl ((if0 _ _).trans (feq (by decide : ¬ ((1 : Int32) = (0 : Int32)))).1)) ?_
        refine own_go (fun _ => XS.iloadN X61.here hx rfl (hb hby at_113) rfl) ?_
        refine own_go (fun _ => XS.iload X61.here hx rfl (hb hby at_114) rfl) ?_
        show ∃ t o, Steps p.tables e below (T61.setTop (mkF m 116 #[.val (.int x1), .val (.int x2), .val (.int x3), .val (.int x4), .val (.int x5), .val (.int w2), .val (.int w3), .val (.ref b6), .val (.int kn), .val (.ref b39), .unset] [(.int w3), (.int x2)])) t ∧ _
        obtain ⟨_, _, ⟨T62, L62, k62, n62⟩, -, X62, ⟨Lc62, hQ62, l62, y62, z62⟩, st62⟩ := Jvm.LawKit.callS X61 hx (y := (⟨"com/example/ipomoea/ipomoea/store/JobKeyEqualsPinLaw", "same", "(II)Z"⟩ : MethodName)) hown (mvT hZ (hw _ (List.mem_of_getElem? (i := 55) rfl))) (mvT hZ (hw _ (List.mem_of_getElem? (i := 56) rfl))) (mvT hZ (hw _ (List.mem_of_getElem? (i := 5) rfl))) (mvT hZ (hw _ (List.mem_of_getElem? (i := 57) rfl))) (by decide) (backOf (W := 0) (rmSame l Z a0 hw [] x2 w3 T56.heap n0 zl60 F59) hZ (hw _ (List.mem_of_getElem? (i := 57) rfl)) (hw _ (List.mem_of_getElem? (i := 5) rfl)) (by decide) (by decide)) (g := (mkF m 116 #[.val (.int x1), .val (.int x2), .val (.int x3), .val (.int x4), .val (.int x5), .val (.int w2), .val (.int w3), .val (.ref b6), .val (.int kn), .val (.ref b39), .unset] [(.int w3), (.int x2)])) rfl (by rw [hml]; rfl) (argsL := [(.int x2), (.int w3)]) (rest := []) (lenOf pd__28II_29Z rfl) rfl (by show 2 * 0 + _ ≤ _; exact Nat.le_of_eq rfl) (hb hby at_116) (fun _ _ => ⟨rfl, e61, (by decide : 34 + 0 ≤ _), (by decide : 180 + 0 ≤ _)⟩)
        dsimp only [Pt.U, Pt.locs, Pt.cells, Pt.slots] at X62 l62 y62 z62 st62 hQ62
        subst l62 y62 z62
        obtain ⟨r1_62, rfl, Nq62, e62, H62_0⟩ := hQ62
        have N62 := Fr.app N61 Nq62
        refine own_go st62 ?_
        show ∃ t o, Steps p.tables e below (T62.setTop (mkF m 119 #[.val (.int x1), .val (.int x2), .val (.int x3), .val (.int x4), .val (.int x5), .val (.int w2), .val (.int w3), .val (.ref b6), .val (.int kn), .val (.ref b39), .unset] [(.int r1_62)])) t ∧ _
        rcases H62_0 with ⟨hr2, hs2⟩ | ⟨hr2, hs2⟩
        · rw [hr2]
          show ∃ t o, Steps p.tables e below (T62.setTop (mkF m 119 #[.val (.int x1), .val (.int x2), .val (.int x3), .val (.int x4), .val (.int x5), .val (.int w2), .val (.int w3), .val (.ref b6), .val (.int kn), .val (.ref b39), .unset] [(.int (1 : Int32))])) t ∧ _
          refine own_go (fun _ => XS.ifNo X62.here hx rfl (hb hby at_119) rfl ((if0 _ _).trans (feq (by decide : ¬ ((1 : Int32) = (0 : Int32)))).1)) ?_
          refine own_go (fun _ => XS.iconst X62.here hx rfl (hb hby at_122)) ?_
          refine own_go (fun _ => XS.goto X62.here hx rfl (pc0 := 123) (pc' := 127) rfl (hb hby at_123) (by decide) (by decide)) ?_
          show ∃ t o, Steps p.tables e below (T62.setTop (mkF m 127 #[.val (.int x1), .val (.int x2), .val (.int x3), .val (.int x4), .val (.int x5), .val (.int w2), .val (.int w3), .val (.ref b6), .val (.int kn), .val (.ref b39), .unset] [(.int (1 : Int32))])) t ∧ _
          refine own_go (fun _ => XS.istore X62.here hx rfl (hb hby at_127) rfl (l' := #[.val (.int x1), .val (.int x2), .val (.int x3), .val (.int x4), .val (.int x5), .val (.int w2), .val (.int w3), .val (.ref b6), .val (.int kn), .val (.ref b39), .val (.int (1 : Int32))]) rfl) ?_
          refine own_go (fun _ => XS.aload X62.here hx rfl (hb hby at_129) rfl rfl) ?_
          refine own_go (fun _ => XS.aload X62.here hx rfl (hb hby at_131) rfl rfl) ?_
          show ∃ t o, Steps p.tables e below (T62.setTop (mkF m 133 #[.val (.int x1), .val (.int x2), .val (.int x3), .val (.int x4), .val (.int x5), .val (.int w2), .val (.int w3), .val (.ref b6), .val (.int kn), .val (.ref b39), .val (.int (1 : Int32))] [(.ref b39), (.ref b6)])) t ∧ _
          have F63 : Exa Z T56.heap b6 "com/example/ipomoea/ipomoea/store/JobKey" := (Exa.keep (Exa.keep (Exa.keep (Exa.ext E39 G23_0) Kp43) Kp47) Kp56)
          have ne64 : b6 ≠ b39 := own_ne (by omega)
          have F65 : Fld Z T56.heap b6 "com/example/ipomoea/ipomoea/store/JobKey" "collection" "Ljava/lang/String;" (.ref b_10) := (Fld.keep (Fld.keep (Fld.keep (Fld.ext E39 G23_1) Kp43 nin0) Kp47 nin0) Kp56 (ninS ne64 nin0))
          have F66 : Fld Z T56.heap b6 "com/example/ipomoea/ipomoea/store/JobKey" "name" "Ljava/lang/String;" (.ref b_14) := (Fld.keep (Fld.keep (Fld.keep (Fld.ext E39 G23_2) Kp43 nin0) Kp47 nin0) Kp56 (ninS ne64 nin0))
          have ne67 : b_10 ≠ b6 := own_ne (by omega)
          have ne68 : b_10 ≠ b39 := own_ne (by omega)
          have F69 : own_Str Z T56.heap b_10 (own_cs x1) := (own_Str.keep1 (own_Str.keep0 (own_Str.keep0 (own_Str.ext (own_Str.keep1 (own_Str.keep0 G10_1 Kp14) Kp23 F16 (hw _ (List.mem_of_getElem? (i := 1) rfl)) ne67) E39) Kp43) Kp47) Kp56 F49 (hw _ (List.mem_of_getElem? (i := 1) rfl)) ne68)
          have ne70 : b_14 ≠ b6 := own_ne (by omega)
          have ne71 : b_14 ≠ b39 := own_ne (by omega)
          have F72 : own_Str Z T56.heap b_14 (own_cs x2) := (own_Str.keep1 (own_Str.keep0 (own_Str.keep0 (own_Str.ext (own_Str.keep1 G14_1 Kp23 F16 (hw _ (List.mem_of_getElem? (i := 1) rfl)) ne70) E39) Kp43) Kp47) Kp56 F49 (hw _ (List.mem_of_getElem? (i := 1) rfl)) ne71)
          have ne73 : b_43 ≠ b39 := own_ne (by omega)
          have F74 : own_Str Z T56.heap b_43 (own_cs w2) := (own_Str.keep1 (own_Str.keep0 G43_1 Kp47) Kp56 F49 (hw _ (List.mem_of_getElem? (i := 1) rfl)) ne73)
          have ne75 : b_47 ≠ b39 := own_ne (by omega)
          have F76 : own_Str Z T56.heap b_47 (own_cs w3) := (own_Str.keep1 G47_1 Kp56 F49 (hw _ (List.mem_of_getElem? (i := 1) rfl)) ne75)
          obtain ⟨cq77, kq77, q77a, q77b, q77c⟩ := isOf hZ e62 F63
          obtain ⟨_, _, ⟨T77, L77, k77, n77⟩, -, X77, ⟨Lc77, hQ77, l77, y77, z77⟩, st77⟩ := X62.virtualBack hx (y := (⟨"com/example/ipomoea/ipomoea/store/JobKey", "equals", "(Ljava/lang/Object;)Z"⟩ : MethodName)) (z := (⟨"com/example/ipomoea/ipomoea/store/JobKey", "equals", "(Ljava/lang/Object;)Z"⟩ : MethodName)) hown (mvT hZ (hw _ (List.mem_of_getElem? (i := 47) rfl))) (mvT hZ (hw _ (List.mem_of_getElem? (i := 48) rfl))) (notFace_of_selects (args := #[]) (mvT hZ (hw _ (List.mem_of_getElem? (i := 50) rfl)))) (mvT hZ (hw _ (List.mem_of_getElem? (i := 50) rfl))) (mvT hZ (hw _ (List.mem_of_getElem? (i := 49) rfl))) (by decide) (backOf (W := 0) (rmEqK l Z a0 hw [] b6 b39 b_10 b_14 b_43 b_47 x1 x2 w2 w3 zc T56.heap n0 zl60 F63 G56_0 F65 F66 G56_1 G56_2 F69 F72 F74 F76 F59 P1 hzc) hZ (hw _ (List.mem_of_getElem? (i := 51) rfl)) (hw _ (List.mem_of_getElem? (i := 2) rfl)) (by decide) (by decide)) q77a q77c (g := (mkF m 133 #[.val (.int x1), .val (.int x2), .val (.int x3), .val (.int x4), .val (.int x5), .val (.int w2), .val (.int w3), .val (.ref b6), .val (.int kn), .val (.ref b39), .val (.int (1 : Int32))] [(.ref b39), (.ref b6)])) rfl (by rw [hml]; rfl) (Steps.refl _) (argsL := [(.ref b39)]) (rest := []) (lenOf pd__28Ljava_2flang_2fObject_3b_29Z rfl) rfl (by show 2 * 0 + _ ≤ _; exact Nat.le_of_eq rfl) (hb hby at_133) (fun _ _ => ⟨rfl, e62, (by decide : 34 + 0 ≤ _), (by decide : 180 + 0 ≤ _)⟩)
          dsimp only [Pt.U, Pt.locs, Pt.cells, Pt.slots] at X77 l77 y77 z77 st77 hQ77
          subst l77 y77 z77
          obtain ⟨r1_77, rfl, Nq77, e77, H77_0⟩ := hQ77
          have N77 := Fr.app N62 Nq77
          refine own_goT st77 ?_
          show ∃ t o, Steps p.tables e below (T77.setTop (mkF m 136 #[.val (.int x1), .val (.int x2), .val (.int x3), .val (.int x4), .val (.int x5), .val (.int w2), .val (.int w3), .val (.ref b6), .val (.int kn), .val (.ref b39), .val (.int (1 : Int32))] [(.int r1_77)])) t ∧ _
          rcases H77_0 with ⟨hr9, hs9⟩ | ⟨hr9, hs9⟩
          · rw [hr9]
            refine own_go (fun _ => XS.iload X77.here hx rfl (hb hby at_136) rfl) ?_
            show ∃ t o, Steps p.tables e below (T77.setTop (mkF m 138 #[.val (.int x1), .val (.int x2), .val (.int x3), .val (.int x4), .val (.int x5), .val (.int w2), .val (.int w3), .val (.ref b6), .val (.int kn), .val (.ref b39), .val (.int (1 : Int32))] [(.int (1 : Int32)), (.int (1 : Int32))])) t ∧ _
            refine own_go (fun _ => XS.icmpNo X77.here hx rfl (hb hby at_138) rfl (teq (by decide : (1 : Int32) = (1 : Int32))).2) ?_
            refine own_go (fun _ => XS.iconst X77.here hx rfl (hb hby at_141)) ?_
            refine own_go (fun _ => XS.goto X77.here hx rfl (pc0 := 142) (pc' := 146) rfl (hb hby at_142) (by decide) (by decide)) ?_
            show ∃ t o, Steps p.tables e below (T77.setTop (mkF m 146 #[.val (.int x1), .val (.int x2), .val (.int x3), .val (.int x4), .val (.int x5), .val (.int w2), .val (.int w3), .val (.ref b6), .val (.int kn), .val (.ref b39), .val (.int (1 : Int32))] [(.int (1 : Int32))])) t ∧ _
            obtain ⟨fs, hr, hrun, hended, hW⟩ := Jvm.Stand.leaveW X77 hS (by rw [e77]; omega) (v := some (.int (1 : Int32))) (fun h => by rw [Bd.returns] at h; cases h)
            have CHz : CHr Z own_EL s.vm s.heap T77.vm T77.heap := by rw [hh, e77]; exact CHr.trans CH58 (CHv.at X77 hZ hEL CH58.1)
            refine ⟨_, _, ?_, hrun, hended, _, _, rfl, ?_, CHz, ⟨hW.1, hW.2.1, hW.2.2.1, hW.2.2.2.mono (by decide) (by decide)⟩⟩
            · exact retN X77 hx (t := .boolean) Bd.returns (by simp) (hb hby at_146) hr
            · show Q_rm0 Z _ _ _ _ _ _ h0 n0 _ T77.heap _
              rw [e77]
              exact ⟨rfl, N77, K56⟩
          · exact absurd ⟨hs1.symm, hs2.symm⟩ hs9
        · rw [hr2]
          show ∃ t o, Steps p.tables e below (T62.setTop (mkF m 119 #[.val (.int x1), .val (.int x2), .val (.int x3), .val (.int x4), .val (.int x5), .val (.int w2), .val (.int w3), .val (.ref b6), .val (.int kn), .val (.ref b39), .unset] [(.int (0 : Int32))])) t ∧ _
          refine own_go (fun _ => XS.ifYes X62.here hx rfl (pc0 := 119) (pc' := 126) rfl (hb hby at_119) rfl ((if0 _ _).trans (teq (by decide : (0 : Int32) = (0 : Int32))).1) (by decide) (by decide)) ?_
          refine own_go (fun _ => XS.iconst X62.here hx rfl (hb hby at_126)) ?_
          refine own_go (fun _ => XS.istore X62.here hx rfl (hb hby at_127) rfl (l' := #[.val (.int x1), .val (.int x2), .val (.int x3), .val (.int x4), .val (.int x5), .val (.int w2), .val (.int w3), .val (.ref b6), .val (.int kn), .val (.ref b39), .val (.int (0 : Int32))]) rfl) ?_
          show ∃ t o, Steps p.tables e below (T62.setTop (mkF m 129 #[.val (.int x1), .val (.int x2), .val (.int x3), .val (.int x4), .val (.int x5), .val (.int w2), .val (.int w3), .val (.ref b6), .val (.int kn), .val (.ref b39), .val (.int (0 : Int32))] [])) t ∧ _
          refine own_go (fun _ => XS.aload X62.here hx rfl (hb hby at_129) rfl rfl) ?_
          refine own_go (fun _ => XS.aload X62.here hx rfl (hb hby at_131) rfl rfl) ?_
          show ∃ t o, Steps p.tables e below (T62.setTop (mkF m 133 #[.val (.int x1), .val (.int x2), .val (.int x3), .val (.int x4), .val (.int x5), .val (.int w2), .val (.int w3), .val (.ref b6), .val (.int kn), .val (.ref b39), .val (.int (0 : Int32))] [(.ref b39), (.ref b6)])) t ∧ _
          have F78 : Exa Z T56.heap b6 "com/example/ipomoea/ipomoea/store/JobKey" := (Exa.keep (Exa.keep (Exa.keep (Exa.ext E39 G23_0) Kp43) Kp47) Kp56)
          have ne79 : b6 ≠ b39 := own_ne (by omega)
          have F80 : Fld Z T56.heap b6 "com/example/ipomoea/ipomoea/store/JobKey" "collection" "Ljava/lang/String;" (.ref b_10) := (Fld.keep (Fld.keep (Fld.keep (Fld.ext E39 G23_1) Kp43 nin0) Kp47 nin0) Kp56 (ninS ne79 nin0))
          have F81 : Fld Z T56.heap b6 "com/example/ipomoea/ipomoea/store/JobKey" "name" "Ljava/lang/String;" (.ref b_14) := (Fld.keep (Fld.keep (Fld.keep (Fld.ext E39 G23_2) Kp43 nin0) Kp47 nin0) Kp56 (ninS ne79 nin0))
          have ne82 : b_10 ≠ b6 := own_ne (by omega)
          have ne83 : b_10 ≠ b39 := own_ne (by omega)
          have F84 : own_Str Z T56.heap b_10 (own_cs x1) := (own_Str.keep1 (own_Str.keep0 (own_Str.keep0 (own_Str.ext (own_Str.keep1 (own_Str.keep0 G10_1 Kp14) Kp23 F16 (hw _ (List.mem_of_getElem? (i := 1) rfl)) ne82) E39) Kp43) Kp47) Kp56 F49 (hw _ (List.mem_of_getElem? (i := 1) rfl)) ne83)
          have ne85 : b_14 ≠ b6 := own_ne (by omega)
          have ne86 : b_14 ≠ b39 := own_ne (by omega)
          have F87 : own_Str Z T56.heap b_14 (own_cs x2) := (own_Str.keep1 (own_Str.keep0 (own_Str.keep0 (own_Str.ext (own_Str.keep1 G14_1 Kp23 F16 (hw _ (List.mem_of_getElem? (i := 1) rfl)) ne85) E39) Kp43) Kp47) Kp56 F49 (hw _ (List.mem_of_getElem? (i := 1) rfl)) ne86)
          have ne88 : b_43 ≠ b39 := own_ne (by omega)
          have F89 : own_Str Z T56.heap b_43 (own_cs w2) := (own_Str.keep1 (own_Str.keep0 G43_1 Kp47) Kp56 F49 (hw _ (List.mem_of_getElem? (i := 1) rfl)) ne88)
          have ne90 : b_47 ≠ b39 := own_ne (by omega)
          have F91 : own_Str Z T56.heap b_47 (own_cs w3) := (own_Str.keep1 G47_1 Kp56 F49 (hw _ (List.mem_of_getElem? (i := 1) rfl)) ne90)
          obtain ⟨cq92, kq92, q92a, q92b, q92c⟩ := isOf hZ e62 F78
          obtain ⟨_, _, ⟨T92, L92, k92, n92⟩, -, X92, ⟨Lc92, hQ92, l92, y92, z92⟩, st92⟩ := X62.virtualBack hx (y := (⟨"com/example/ipomoea/ipomoea/store/JobKey", "equals", "(Ljava/lang/Object;)Z"⟩ : MethodName)) (z := (⟨"com/example/ipomoea/ipomoea/store/JobKey", "equals", "(Ljava/lang/Object;)Z"⟩ : MethodName)) hown (mvT hZ (hw _ (List.mem_of_getElem? (i := 47) rfl))) (mvT hZ (hw _ (List.mem_of_getElem? (i := 48) rfl))) (notFace_of_selects (args := #[]) (mvT hZ (hw _ (List.mem_of_getElem? (i := 50) rfl)))) (mvT hZ (hw _ (List.mem_of_getElem? (i := 50) rfl))) (mvT hZ (hw _ (List.mem_of_getElem? (i := 49) rfl))) (by decide) (backOf (W := 0) (rmEqK l Z a0 hw [] b6 b39 b_10 b_14 b_43 b_47 x1 x2 w2 w3 zc T56.heap n0 zl60 F78 G56_0 F80 F81 G56_1 G56_2 F84 F87 F89 F91 F59 P1 hzc) hZ (hw _ (List.mem_of_getElem? (i := 51) rfl)) (hw _ (List.mem_of_getElem? (i := 2) rfl)) (by decide) (by decide)) q92a q92c (g := (mkF m 133 #[.val (.int x1), .val (.int x2), .val (.int x3), .val (.int x4), .val (.int x5), .val (.int w2), .val (.int w3), .val (.ref b6), .val (.int kn), .val (.ref b39), .val (.int (0 : Int32))] [(.ref b39), (.ref b6)])) rfl (by rw [hml]; rfl) (Steps.refl _) (argsL := [(.ref b39)]) (rest := []) (lenOf pd__28Ljava_2flang_2fObject_3b_29Z rfl) rfl (by show 2 * 0 + _ ≤ _; exact Nat.le_of_eq rfl) (hb hby at_133) (fun _ _ => ⟨rfl, e62, (by decide : 34 + 0 ≤ _), (by decide : 180 + 0 ≤ _)⟩)
          dsimp only [Pt.U, Pt.locs, Pt.cells, Pt.slots] at X92 l92 y92 z92 st92 hQ92
          subst l92 y92 z92
          obtain ⟨r1_92, rfl, Nq92, e92, H92_0⟩ := hQ92
          have N92 := Fr.app N62 Nq92
          refine own_goT st92 ?_
          show ∃ t o, Steps p.tables e below (T92.setTop (mkF m 136 #[.val (.int x1), .val (.int x2), .val (.int x3), .val (.int x4), .val (.int x5), .val (.int w2), .val (.int w3), .val (.ref b6), .val (.int kn), .val (.ref b39), .val (.int (0 : Int32))] [(.int r1_92)])) t ∧ _
          rcases H92_0 with ⟨hr9, hs9⟩ | ⟨hr9, hs9⟩
          · exact absurd hs9.2.symm hs2
          · rw [hr9]
            refine own_go (fun _ => XS.iload X92.here hx rfl (hb hby at_136) rfl) ?_
            show ∃ t o, Steps p.tables e below (T92.setTop (mkF m 138 #[.val (.int x1), .val (.int x2), .val (.int x3), .val (.int x4), .val (.int x5), .val (.int w2), .val (.int w3), .val (.ref b6), .val (.int kn), .val (.ref b39), .val (.int (0 : Int32))] [(.int (0 : Int32)), (.int (0 : Int32))])) t ∧ _
            refine own_go (fun _ => XS.icmpNo X92.here hx rfl (hb hby at_138) rfl (teq (by decide : (0 : Int32) = (0 : Int32))).2) ?_
            refine own_go (fun _ => XS.iconst X92.here hx rfl (hb hby at_141)) ?_
            refine own_go (fun _ => XS.goto X92.here hx rfl (pc0 := 142) (pc' := 146) rfl (hb hby at_142) (by decide) (by decide)) ?_
            show ∃ t o, Steps p.tables e below (T92.setTop (mkF m 146 #[.val (.int x1), .val (.int x2), .val (.int x3), .val (.int x4), .val (.int x5), .val (.int w2), .val (.int w3), .val (.ref b6), .val (.int kn), .val (.ref b39), .val (.int (0 : Int32))] [(.int (1 : Int32))])) t ∧ _
            obtain ⟨fs, hr, hrun, hended, hW⟩ := Jvm.Stand.leaveW X92 hS (by rw [e92]; omega) (v := some (.int (1 : Int32))) (fun h => by rw [Bd.returns] at h; cases h)
            have CHz : CHr Z own_EL s.vm s.heap T92.vm T92.heap := by rw [hh, e92]; exact CHr.trans CH58 (CHv.at X92 hZ hEL CH58.1)
            refine ⟨_, _, ?_, hrun, hended, _, _, rfl, ?_, CHz, ⟨hW.1, hW.2.1, hW.2.2.1, hW.2.2.2.mono (by decide) (by decide)⟩⟩
            · exact retN X92 hx (t := .boolean) Bd.returns (by simp) (hb hby at_146) hr
            · show Q_rm0 Z _ _ _ _ _ _ h0 n0 _ T92.heap _
              rw [e92]
              exact ⟨rfl, N92, K56⟩
      · rw [hr1]
        show ∃ t o, Steps p.tables e below (T61.setTop (mkF m 110 #[.val (.int x1), .val (.int x2), .val (.int x3), .val (.int x4), .val (.int x5), .val (.int w2), .val (.int w3), .val (.ref b6), .val (.int kn), .val (.ref b39), .unset] [(.int (0 : Int32))])) t ∧ _
        refine own_go (fun _ => XS.ifYes X61.here hx rfl (pc0 := 110) (pc' := 126) rfl (hb hby at_110) rfl ((if0 _ _).trans (teq (by decide : (0 : Int32) = (0 : Int32))).1) (by decide) (by decide)) ?_
        refine own_go (fun _ => XS.iconst X61.here hx rfl (hb hby at_126)) ?_
        refine own_go (fun _ => XS.istore X61.here hx rfl (hb hby at_127) rfl (l' := #[.val (.int x1), .val (.int x2), .val (.int x3), .val (.int x4), .val (.int x5), .val (.int w2), .val (.int w3), .val (.ref b6), .val (.int kn), .val (.ref b39), .val (.int (0 : Int32))]) rfl) ?_
        show ∃ t o, Steps p.tables e below (T61.setTop (mkF m 129 #[.val (.int x1), .val (.int x2), .val (.int x3), .val (.int x4), .val (.int x5), .val (.int w2), .val (.int w3), .val (.ref b6), .val (.int kn), .val (.ref b39), .val (.int (0 : Int32))] [])) t ∧ _
        refine own_go (fun _ => XS.aload X61.here hx rfl (hb hby at_129) rfl rfl) ?_
        refine own_go (fun _ => XS.aload X61.here hx rfl (hb hby at_131) rfl rfl) ?_
        show ∃ t o, Steps p.tables e below (T61.setTop (mkF m 133 #[.val (.int x1), .val (.int x2), .val (.int x3), .val (.int x4), .val (.int x5), .val (.int w2), .val (.int w3), .val (.ref b6), .val (.int kn), .val (.ref b39), .val (.int (0 : Int32))] [(.ref b39), (.ref b6)])) t ∧ _
        have F93 : Exa Z T56.heap b6 "com/example/ipomoea/ipomoea/store/JobKey" := (Exa.keep (Exa.keep (Exa.keep (Exa.ext E39 G23_0) Kp43) Kp47) Kp56)
        have ne94 : b6 ≠ b39 := own_ne (by omega)
        have F95 : Fld Z T56.heap b6 "com/example/ipomoea/ipomoea/store/JobKey" "collection" "Ljava/lang/String;" (.ref b_10) := (Fld.keep (Fld.keep (Fld.keep (Fld.ext E39 G23_1) Kp43 nin0) Kp47 nin0) Kp56 (ninS ne94 nin0))
        have F96 : Fld Z T56.heap b6 "com/example/ipomoea/ipomoea/store/JobKey" "name" "Ljava/lang/String;" (.ref b_14) := (Fld.keep (Fld.keep (Fld.keep (Fld.ext E39 G23_2) Kp43 nin0) Kp47 nin0) Kp56 (ninS ne94 nin0))
        have ne97 : b_10 ≠ b6 := own_ne (by omega)
        have ne98 : b_10 ≠ b39 := own_ne (by omega)
        have F99 : own_Str Z T56.heap b_10 (own_cs x1) := (own_Str.keep1 (own_Str.keep0 (own_Str.keep0 (own_Str.ext (own_Str.keep1 (own_Str.keep0 G10_1 Kp14) Kp23 F16 (hw _ (List.mem_of_getElem? (i := 1) rfl)) ne97) E39) Kp43) Kp47) Kp56 F49 (hw _ (List.mem_of_getElem? (i := 1) rfl)) ne98)
        have ne100 : b_14 ≠ b6 := own_ne (by omega)
        have ne101 : b_14 ≠ b39 := own_ne (by omega)
        have F102 : own_Str Z T56.heap b_14 (own_cs x2) := (own_Str.keep1 (own_Str.keep0 (own_Str.keep0 (own_Str.ext (own_Str.keep1 G14_1 Kp23 F16 (hw _ (List.mem_of_getElem? (i := 1) rfl)) ne100) E39) Kp43) Kp47) Kp56 F49 (hw _ (List.mem_of_getElem? (i := 1) rfl)) ne101)
        have ne103 : b_43 ≠ b39 := own_ne (by omega)
        have F104 : own_Str Z T56.heap b_43 (own_cs w2) := (own_Str.keep1 (own_Str.keep0 G43_1 Kp47) Kp56 F49 (hw _ (List.mem_of_getElem? (i := 1) rfl)) ne103)
        have ne105 : b_47 ≠ b39 := own_ne (by omega)
        have F106 : own_Str Z T56.heap b_47 (own_cs w3) := (own_Str.keep1 G47_1 Kp56 F49 (hw _ (List.mem_of_getElem? (i := 1) rfl)) ne105)
        obtain ⟨cq107, kq107, q107a, q107b, q107c⟩ := isOf hZ e61 F93
        obtain ⟨_, _, ⟨T107, L107, k107, n107⟩, -, X107, ⟨Lc107, hQ107, l107, y107, z107⟩, st107⟩ := X61.virtualBack hx (y := (⟨"com/example/ipomoea/ipomoea/store/JobKey", "equals", "(Ljava/lang/Object;)Z"⟩ : MethodName)) (z := (⟨"com/example/ipomoea/ipomoea/store/JobKey", "equals", "(Ljava/lang/Object;)Z"⟩ : MethodName)) hown (mvT hZ (hw _ (List.mem_of_getElem? (i := 47) rfl))) (mvT hZ (hw _ (List.mem_of_getElem? (i := 48) rfl))) (notFace_of_selects (args := #[]) (mvT hZ (hw _ (List.mem_of_getElem? (i := 50) rfl)))) (mvT hZ (hw _ (List.mem_of_getElem? (i := 50) rfl))) (mvT hZ (hw _ (List.mem_of_getElem? (i := 49) rfl))) (by decide) (backOf (W := 0) (rmEqK l Z a0 hw [] b6 b39 b_10 b_14 b_43 b_47 x1 x2 w2 w3 zc T56.heap n0 zl60 F93 G56_0 F95 F96 G56_1 G56_2 F99 F102 F104 F106 F59 P1 hzc) hZ (hw _ (List.mem_of_getElem? (i := 51) rfl)) (hw _ (List.mem_of_getElem? (i := 2) rfl)) (by decide) (by decide)) q107a q107c (g := (mkF m 133 #[.val (.int x1), .val (.int x2), .val (.int x3), .val (.int x4), .val (.int x5), .val (.int w2), .val (.int w3), .val (.ref b6), .val (.int kn), .val (.ref b39), .val (.int (0 : Int32))] [(.ref b39), (.ref b6)])) rfl (by rw [hml]; rfl) (Steps.refl _) (argsL := [(.ref b39)]) (rest := []) (lenOf pd__28Ljava_2flang_2fObject_3b_29Z rfl) rfl (by show 2 * 0 + _ ≤ _; exact Nat.le_of_eq rfl) (hb hby at_133) (fun _ _ => ⟨rfl, e61, (by decide : 34 + 0 ≤ _), (by decide : 180 + 0 ≤ _)⟩)
        dsimp only [Pt.U, Pt.locs, Pt.cells, Pt.slots] at X107 l107 y107 z107 st107 hQ107
        subst l107 y107 z107
        obtain ⟨r1_107, rfl, Nq107, e107, H107_0⟩ := hQ107
        have N107 := Fr.app N61 Nq107
        refine own_goT st107 ?_
        show ∃ t o, Steps p.tables e below (T107.setTop (mkF m 136 #[.val (.int x1), .val (.int x2), .val (.int x3), .val (.int x4), .val (.int x5), .val (.int w2), .val (.int w3), .val (.ref b6), .val (.int kn), .val (.ref b39), .val (.int (0 : Int32))] [(.int r1_107)])) t ∧ _
        rcases H107_0 with ⟨hr9, hs9⟩ | ⟨hr9, hs9⟩
        · exact absurd hs9.1.symm hs1
        · rw [hr9]
          refine own_go (fun _ => XS.iload X107.here hx rfl (hb hby at_136) rfl) ?_
          show ∃ t o, Steps p.tables e below (T107.setTop (mkF m 138 #[.val (.int x1), .val (.int x2), .val (.int x3), .val (.int x4), .val (.int x5), .val (.int w2), .val (.int w3), .val (.ref b6), .val (.int kn), .val (.ref b39), .val (.int (0 : Int32))] [(.int (0 : Int32)), (.int (0 : Int32))])) t ∧ _
          refine own_go (fun _ => XS.icmpNo X107.here hx rfl (hb hby at_138) rfl (teq (by decide : (0 : Int32) = (0 : Int32))).2) ?_
          refine own_go (fun _ => XS.iconst X107.here hx rfl (hb hby at_141)) ?_
          refine own_go (fun _ => XS.goto X107.here hx rfl (pc0 := 142) (pc' := 146) rfl (hb hby at_142) (by decide) (by decide)) ?_
          show ∃ t o, Steps p.tables e below (T107.setTop (mkF m 146 #[.val (.int x1), .val (.int x2), .val (.int x3), .val (.int x4), .val (.int x5), .val (.int w2), .val (.int w3), .val (.ref b6), .val (.int kn), .val (.ref b39), .val (.int (0 : Int32))] [(.int (1 : Int32))])) t ∧ _
          obtain ⟨fs, hr, hrun, hended, hW⟩ := Jvm.Stand.leaveW X107 hS (by rw [e107]; omega) (v := some (.int (1 : Int32))) (fun h => by rw [Bd.returns] at h; cases h)
          have CHz : CHr Z own_EL s.vm s.heap T107.vm T107.heap := by rw [hh, e107]; exact CHr.trans CH58 (CHv.at X107 hZ hEL CH58.1)
          refine ⟨_, _, ?_, hrun, hended, _, _, rfl, ?_, CHz, ⟨hW.1, hW.2.1, hW.2.2.1, hW.2.2.2.mono (by decide) (by decide)⟩⟩
          · exact retN X107 hx (t := .boolean) Bd.returns (by simp) (hb hby at_146) hr
          · show Q_rm0 Z _ _ _ _ _ _ h0 n0 _ T107.heap _
            rw [e107]
            exact ⟨rfl, N107, K56⟩
set_option maxRecDepth 65536 in
set_option maxHeartbeats 40000000 in
theorem comes_1 {Post : Tables → Env → Array Value → State → Outcome → State → Prop} (hpost : ∀ tb e args s v u, (limb_1_1.after args s (.returned v) u = true ∧ limb_1_2.after args s (.returned v) u = true ∧ True) → ReturnedEndW s (.returned v) u (Jvm.fieldLocs frame_1_writes args s ++ Jvm.arrayLocs frame_1_arrays args s ++ Jvm.staticLocs frame_1_statics s) 48 3264 → Post tb e args s (.returned v) u) :
    ArmFor flags0 classFile x code maxLocals ret World_1 tables_1 room_1 Calls_1 rest_1 Pre_1 Post := by
  intro l hfl _ _ p e ha hc hk s m args below hf hA hF happ hP
  obtain ⟨hcalls, hrest, hpre⟩ := hP
  obtain ⟨-, -, -, hnamed, -, -, -, hat⟩ := (Spec.applies_iff hf).mp happ
  obtain ⟨hg, hn⟩ := and_e (Cond.before_iff.mp (show (Jvm.Cond.and given_1 narrow_1).before args s = true from hpre))
  obtain ⟨g1, g2⟩ := and_e hg
  obtain ⟨g3, g4⟩ := and_e g2
  obtain ⟨g5, g6⟩ := and_e g4
  obtain ⟨g7, g8⟩ := and_e g6
  obtain ⟨g9, g10⟩ := and_e g8
  obtain ⟨w0, w1, w2, w3, w4, rfl⟩ : ∃ w0 w1 w2 w3 w4 : Value, args = #[w0, w1, w2, w3, w4] := by
    have hs : args.size = 5 := by simpa [Cond.value, given_1] using g1
    obtain ⟨L⟩ := args
    match L, hs with
    | [w0, w1, w2, w3, w4], _ => exact ⟨w0, w1, w2, w3, w4, rfl⟩
  have hw := fun d (hd : d ∈ tables_1) => atoms_spec (ws := Jvm.Cond.code x code maxLocals ret :: tables_1) hat d (List.mem_cons_of_mem _ hd)
  have hfit : Fit s := fun {y c} hc i hi => by
    obtain ⟨ha, rfl⟩ := Array.getElem?_eq_some_iff.mp hc
    have q := List.all_eq_true.mp ((Array.all_eq_true_iff_forall_mem.mp hF) _ (Array.getElem_mem ha)) i (List.mem_range.mpr hi)
    simpa [Array.getElem?_eq_getElem hi] using q
  obtain ⟨hsets, hown0⟩ := atoms_of _ (rest_1_c_eq ▸ (show rest_1_c.before _ s = true from hrest))
  have hr0 := Cond.before_iff.mp hown0
  obtain ⟨i0, ei0⟩ := is_v g3
  obtain rfl : w0 = (.int i0) := Option.some.inj ei0
  obtain ⟨i1, ei1⟩ := is_v g5
  obtain rfl : w1 = (.int i1) := Option.some.inj ei1
  obtain ⟨i2, ei2⟩ := is_v g7
  obtain rfl : w2 = (.int i2) := Option.some.inj ei2
  obtain ⟨i3, ei3⟩ := is_v g9
  obtain rfl : w3 = (.int i3) := Option.some.inj ei3
  obtain ⟨i4, ei4⟩ := is_v g10
  obtain rfl : w4 = (.int i4) := Option.some.inj ei4
  have CI : (Jvm.Cond.isInt (Jvm.Term.static "java/lang/String" "COMPACT_STRINGS" "Z")).value _ s none s [] = some true := Cond.before_iff.mp (hsets _ (List.mem_of_getElem? (i := 1) rfl))
  obtain ⟨zc, evc⟩ := is_v CI
  have SCS : Sta s s.heap "java/lang/String" "COMPACT_STRINGS" "Z" (.int zc) := Sta.start evc (Or.inl (hsets _ (List.mem_of_getElem? (i := 0) rfl)))
  have hzc : ¬ (zc = (0 : Int32)) := gotF (Cond.eq_ints evc (Term.int_eval (0 : Int32))) (not_v (Cond.before_iff.mp (hsets _ (List.mem_of_getElem? (i := 2) rfl))))
  have hEL : EW s _ own_EL := EW.cons (own := "java/lang/String") (index := 7) (text := "") (hw _ (List.mem_of_getElem? (i := 24) rfl)) (by decide) EW.nil
  have hCH0 : CHv s own_EL s.vm s.heap := CHv.start hEL (fun p hp => by cases List.mem_singleton.mp hp; exact hcalls.1 _ (List.mem_of_getElem? (i := 2) rfl)) (hsets _ (List.mem_of_getElem? (i := 2) rfl)) (hw _ (List.mem_of_getElem? (i := 25) rfl)) (hw _ (List.mem_of_getElem? (i := 11) rfl))
  have OLD := Old.start s
  obtain ⟨n, o, h1, h2, h3, _, L, rfl, ⟨rfl, N, -⟩, -, hq⟩ := rm0 l s _ hw tables_1 i0 i1 i2 i3 i4 zc s.heap s.heap.size (Nat.le_refl _) OLD SCS hzc hEL p e ha hc hk s m _ below hf ((Spec.applies_iff_loose hf).mp happ).1 ⟨rfl, State.Warmed39.refl s, rfl, hCH0⟩ trivial
  refine ⟨n, _, h1, h2, h3, hpost _ _ _ _ _ _ ⟨Cond.after_iff.mpr rfl, Cond.after_iff.mpr (eq_i res_at (Term.int_eval (1)) rfl), trivial⟩ ⟨hq.1, hq.2.1, hq.2.2.1, (hq.2.2.2.sift fun y hy => Or.inr (N y hy)).mono (by decide) (by decide)⟩⟩
theorem main_1_1 : Claimed_1_1 := comes_1 fun _ _ _ _ _ _ h hF => ⟨h.1, hF⟩
theorem main_1_2 : Claimed_1_2 := comes_1 fun _ _ _ _ _ _ h hF => ⟨h.2.1, hF⟩
end Jvm.Pilot.@@N@@
namespace Jvm.Pilot.@@N@@
open Jvm Jvm.ClassFile Sem Op Lib Jvm.Free Jvm.Stand Jvm.Pilot.@@N@@.Jvm.D
/-! MADE BY PROGRAM (witnessworld.py) out of the Statement's table words and the real class files: 21 classes; the members and pool entries that the words name. The judged class is class 1, her method 1. -/
namespace start1
open Jvm.ClassFile
def u (s : String) : CpInfo := .utf8 (stringToUtf16 s)
/-- a pool by its gaps: so many unusable entries, then the entry; so many at the end -/
def gap : Nat → List CpInfo → List CpInfo
  | 0, r => r
  | n + 1, r => .unusable :: gap n r
def poolList (es : List (Nat × CpInfo)) (last : Nat) : List CpInfo := es.foldr (fun e r => gap e.1 (e.2 :: r)) (gap last [])
def pool (es : List (Nat × CpInfo)) (last : Nat) : Array CpInfo := ⟨poolList es last⟩
def fileOf (pool : Array CpInfo) (this : Nat) (attrs : Array Attribute := #[]) (ms : Array MethodInfo := #[]) (fl : Nat := 33) (sup : Nat := 0) (ifs : Array Nat := #[]) (fds : Array FieldInfo := #[]) : ClassFile where
  minorVersion := 0
  majorVersion := 65
  constantPool := pool
  accessFlags := fl
  thisClass := this
  superClass := sup
  interfaces := ifs
  fields := fds
  methods := ms
  attributes := attrs
def plain (name : String) (sup : Option ClassId) : Class where
  name := name
  kind := .ordinary
  loader := none
  accessFlags := 33
  super := sup
  interfaces := #[]
  cf := none
  fields := #[]
  methods := #[]
  instanceTypes := #[]
  staticTypes := #[]
  resolved := #[]
  callSites := []
  init := .initialized
  statics := none
  mirror := none

def pool0 : Array CpInfo := pool [(5, u "<init>"), (0, u "()V"), (1, .class_ 10), (1, u "java/lang/Object")] 113

def k0c0 : Code := { maxStack := 0, maxLocals := 1, code := object_method_1_code, exceptionTable := #[], attributes := #[] }
def k0m0 : Method := { name := "<init>", desc := "()V", sig := { parameters := [], returnType := none }, accessFlags := 1, code := some k0c0 }
/-- java/lang/Object -/
def k0 : Class := { plain "java/lang/Object" none with
  accessFlags := 33
  interfaces := #[]
  cf := some (fileOf pool0 8 #[] #[{ accessFlags := 1, nameIndex := 5, descriptorIndex := 6, attributes := #[] }] 33 0 #[] #[])
  fields := #[]
  methods := #[k0m0]
  instanceTypes := #[]
  staticTypes := #[]
  resolved := Array.replicate 124 none
  statics := none }

def pool1 : Array CpInfo := pool [(2, .class_ 4), (1, u "java/lang/Object"), (0, u "<init>"), (0, u "()V"), (0, .class_ 8), (0, u "com/example/ipomoea/ipomoea/store/JobKey"), (0, .methodref 10 11), (0, .class_ 12), (0, .nameAndType 13 14), (0, u "com/example/ipomoea/ipomoea/store/JobKeyEqualsPinLaw"), (0, u "mk"), (0, u "(I)Ljava/lang/String;"), (0, .methodref 7 16), (0, .nameAndType 5 17), (0, u "(Ljava/lang/String;Ljava/lang/String;)V"), (0, .methodref 10 19), (0, .nameAndType 20 21), (0, u "same"), (0, u "(II)Z"), (0, .methodref 7 23), (0, .nameAndType 24 25), (0, u "equals"), (0, u "(Ljava/lang/Object;)Z"), (0, .methodref 10 27), (0, .nameAndType 28 29), (0, u "len"), (0, u "(I)I"), (0, .class_ 31), (0, u "java/lang/String"), (0, .methodref 30 33), (0, .nameAndType 5 34), (0, u "([C)V"), (2, u "law"), (0, u "(IIIII)Z")] 3

def k1m0 : Method := { name := "<init>", desc := "()V", sig := { parameters := [], returnType := none }, accessFlags := 1, code := none }
def k1c1 : Code := { maxStack := 4, maxLocals := 11, code := code, exceptionTable := #[], attributes := #[] }
def k1m1 : Method := { name := "law", desc := "(IIIII)Z", sig := { parameters := [.int, .int, .int, .int, .int], returnType := some .boolean }, accessFlags := 9, code := some k1c1 }
def k1c2 : Code := { maxStack := 2, maxLocals := 1, code := method_3_code, exceptionTable := #[], attributes := #[] }
def k1m2 : Method := { name := "len", desc := "(I)I", sig := { parameters := [.int], returnType := some .int }, accessFlags := 10, code := some k1c2 }
def k1c3 : Code := { maxStack := 6, maxLocals := 4, code := method_4_code, exceptionTable := #[], attributes := #[] }
def k1m3 : Method := { name := "mk", desc := "(I)Ljava/lang/String;", sig := { parameters := [.int], returnType := some (.object "java/lang/String") }, accessFlags := 10, code := some k1c3 }
def k1c4 : Code := { maxStack := 3, maxLocals := 3, code := method_5_code, exceptionTable := #[], attributes := #[] }
def k1m4 : Method := { name := "same", desc := "(II)Z", sig := { parameters := [.int, .int], returnType := some .boolean }, accessFlags := 10, code := some k1c4 }
/-- com/example/ipomoea/ipomoea/store/JobKeyEqualsPinLaw -/
def k1 : Class := { plain "com/example/ipomoea/ipomoea/store/JobKeyEqualsPinLaw" (some 0) with
  accessFlags := 49
  interfaces := #[]
  cf := some (fileOf pool1 10 #[] #[{ accessFlags := 1, nameIndex := 5, descriptorIndex := 6, attributes := #[] }, { accessFlags := 9, nameIndex := 37, descriptorIndex := 38, attributes := #[] }, { accessFlags := 10, nameIndex := 28, descriptorIndex := 29, attributes := #[] }, { accessFlags := 10, nameIndex := 13, descriptorIndex := 14, attributes := #[] }, { accessFlags := 10, nameIndex := 20, descriptorIndex := 21, attributes := #[] }] 49 2 #[] #[])
  fields := #[]
  methods := #[k1m0, k1m1, k1m2, k1m3, k1m4]
  instanceTypes := #[]
  staticTypes := #[]
  resolved := Array.replicate 42 none
  statics := none }

def pool2 : Array CpInfo := pool [(1, .class_ 2), (0, u "java/lang/Comparable"), (0, .class_ 4), (0, u "java/lang/Object")] 7

/-- java/lang/Comparable -/
def k2 : Class := { plain "java/lang/Comparable" (some 0) with
  accessFlags := 1537
  interfaces := #[]
  cf := some (fileOf pool2 1 #[] #[] 1537 3 #[] #[])
  fields := #[]
  methods := #[]
  instanceTypes := #[]
  staticTypes := #[]
  resolved := Array.replicate 12 none
  statics := none }

def pool3 : Array CpInfo := pool [(1, .methodref 2 3), (0, .class_ 4), (0, .nameAndType 5 6), (0, u "java/lang/Object"), (0, u "<init>"), (0, u "()V"), (0, .string 8), (0, u "collection"), (0, .methodref 10 11), (0, .class_ 12), (0, .nameAndType 13 14), (0, u "java/util/Objects"), (0, u "requireNonNull"), (0, u "(Ljava/lang/Object;Ljava/lang/String;)Ljava/lang/Object;"), (0, .class_ 16), (0, u "java/lang/String"), (0, .fieldref 18 19), (0, .class_ 20), (0, .nameAndType 8 21), (0, u "com/example/ipomoea/ipomoea/store/JobKey"), (0, u "Ljava/lang/String;"), (0, .string 23), (0, u "name"), (0, .fieldref 18 25), (0, .nameAndType 23 21), (2, u "ORDER"), (0, u "Ljava/util/Comparator;"), (6, .methodref 15 37), (0, .nameAndType 38 39), (0, u "equals"), (0, u "(Ljava/lang/Object;)Z"), (24, .class_ 65), (0, u "java/lang/Comparable"), (2, u "(Ljava/lang/String;Ljava/lang/String;)V")] 45

def k3c0 : Code := { maxStack := 3, maxLocals := 3, code := prog_27_method_1_code, exceptionTable := #[], attributes := #[] }
def k3m0 : Method := { name := "<init>", desc := "(Ljava/lang/String;Ljava/lang/String;)V", sig := { parameters := [(.object "java/lang/String"), (.object "java/lang/String")], returnType := none }, accessFlags := 1, code := some k3c0 }
def k3c1 : Code := { maxStack := 2, maxLocals := 3, code := prog_27_method_5_code, exceptionTable := #[], attributes := #[] }
def k3m1 : Method := { name := "equals", desc := "(Ljava/lang/Object;)Z", sig := { parameters := [(.object "java/lang/Object")], returnType := some .boolean }, accessFlags := 1, code := some k3c1 }
/-- com/example/ipomoea/ipomoea/store/JobKey -/
def k3 : Class := { plain "com/example/ipomoea/ipomoea/store/JobKey" (some 0) with
  accessFlags := 49
  interfaces := #[2]
  cf := some (fileOf pool3 18 #[] #[{ accessFlags := 1, nameIndex := 5, descriptorIndex := 68, attributes := #[] }, { accessFlags := 1, nameIndex := 38, descriptorIndex := 39, attributes := #[] }] 49 2 #[64] #[{ accessFlags := 26, nameIndex := 28, descriptorIndex := 29, attributes := #[] }, { accessFlags := 18, nameIndex := 8, descriptorIndex := 21, attributes := #[] }, { accessFlags := 18, nameIndex := 23, descriptorIndex := 21, attributes := #[] }])
  fields := #[{ name := "ORDER", type := (.object "java/util/Comparator"), accessFlags := 26, slot := 0, constantValue := 0 }, { name := "collection", type := (.object "java/lang/String"), accessFlags := 18, slot := 0, constantValue := 0 }, { name := "name", type := (.object "java/lang/String"), accessFlags := 18, slot := 1, constantValue := 0 }]
  methods := #[k3m0, k3m1]
  instanceTypes := #[(.object "java/lang/String"), (.object "java/lang/String")]
  staticTypes := #[(.object "java/util/Comparator")]
  resolved := Array.replicate 114 none
  statics := none }

def pool4 : Array CpInfo := pool [(1, .class_ 2), (0, u "java/io/Serializable"), (0, .class_ 4), (0, u "java/lang/Object")] 2

/-- java/io/Serializable -/
def k4 : Class := { plain "java/io/Serializable" (some 0) with
  accessFlags := 1537
  interfaces := #[]
  cf := some (fileOf pool4 1 #[] #[] 1537 3 #[] #[])
  fields := #[]
  methods := #[]
  instanceTypes := #[]
  staticTypes := #[]
  resolved := Array.replicate 7 none
  statics := none }

def pool5 : Array CpInfo := pool [(2, .class_ 4), (1, u "java/lang/CharSequence"), (42, .class_ 48), (0, u "java/lang/CharSequence$1CodePointIterator"), (10, .class_ 60), (0, u "java/lang/CharSequence$1CharIterator"), (5, .class_ 67), (0, u "java/lang/Object")] 63

/-- java/lang/CharSequence -/
def k5 : Class := { plain "java/lang/CharSequence" (some 0) with
  accessFlags := 1537
  interfaces := #[]
  cf := some (fileOf pool5 2 #[.nestMembers #[47, 59]] #[] 1537 66 #[] #[])
  fields := #[]
  methods := #[]
  instanceTypes := #[]
  staticTypes := #[]
  resolved := Array.replicate 131 none
  statics := none }

def pool6 : Array CpInfo := pool [(1, .class_ 2), (0, u "java/lang/constant/Constable"), (0, .class_ 4), (0, u "java/lang/Object")] 6

/-- java/lang/constant/Constable -/
def k6 : Class := { plain "java/lang/constant/Constable" (some 0) with
  accessFlags := 1537
  interfaces := #[]
  cf := some (fileOf pool6 1 #[] #[] 1537 3 #[] #[])
  fields := #[]
  methods := #[]
  instanceTypes := #[]
  staticTypes := #[]
  resolved := Array.replicate 11 none
  statics := none }

def pool7 : Array CpInfo := pool [(1, .class_ 2), (0, u "java/lang/constant/ConstantDesc"), (0, .class_ 4), (0, u "java/lang/Object")] 32

/-- java/lang/constant/ConstantDesc -/
def k7 : Class := { plain "java/lang/constant/ConstantDesc" (some 0) with
  accessFlags := 1537
  interfaces := #[]
  cf := some (fileOf pool7 1 #[] #[] 1537 3 #[] #[])
  fields := #[]
  methods := #[]
  instanceTypes := #[]
  staticTypes := #[]
  resolved := Array.replicate 37 none
  statics := none }

def pool8 : Array CpInfo := pool [(1, .methodref 2 3), (0, .class_ 4), (0, .nameAndType 5 6), (0, u "java/lang/Object"), (0, u "<init>"), (0, u "()V"), (0, .string 8), (0, u ""), (0, .fieldref 10 11), (0, .class_ 12), (0, .nameAndType 13 14), (0, u "java/lang/String"), (0, u "value"), (0, u "[B"), (0, .fieldref 10 16), (0, .nameAndType 17 18), (0, u "coder"), (0, u "B"), (2, u "hash"), (0, u "I"), (2, u "hashIsZero"), (0, u "Z"), (0, .methodref 10 28), (0, .nameAndType 5 29), (0, u "([CIILjava/lang/Void;)V"), (8, .fieldref 10 39), (0, .nameAndType 40 26), (0, u "COMPACT_STRINGS"), (1, .class_ 44), (1, u "java/lang/StringUTF16"), (0, u "compress"), (1, .methodref 42 48), (0, .nameAndType 49 50), (0, u "coderFromArrayLen"), (0, u "([BI)B"), (56, .class_ 109), (1, u "java/lang/StringLatin1"), (67, .methodref 42 178), (0, .nameAndType 45 179), (0, u "([CII)[B"), (361, .methodref 107 542), (0, .nameAndType 543 544), (0, u "equals"), (0, u "([B[B)Z"), (28, u "(Ljava/lang/Object;)Z"), (1, .class_ 576), (0, u "java/lang/CharSequence"), (22, u "CASE_INSENSITIVE_ORDER"), (0, u "Ljava/util/Comparator;"), (409, u "([C)V"), (90, u "serialPersistentFields"), (0, u "[Ljava/io/ObjectStreamField;"), (0, .class_ 1104), (0, u "java/lang/String$CaseInsensitiveComparator"), (1, .class_ 1107), (0, u "java/io/Serializable"), (0, .class_ 1109), (0, u "java/lang/Comparable"), (0, .class_ 1111), (0, u "java/lang/constant/Constable"), (0, .class_ 1113), (0, u "java/lang/constant/ConstantDesc"), (2, u "serialVersionUID"), (0, u "J"), (3, u "REPL"), (0, u "C"), (2, u "LATIN1"), (1, u "UTF16")] 323

def k8m0 : Method := { name := "<init>", desc := "()V", sig := { parameters := [], returnType := none }, accessFlags := 1, code := none }
def k8c1 : Code := { maxStack := 5, maxLocals := 2, code := jdk_42_method_3_code, exceptionTable := #[], attributes := #[] }
def k8m1 : Method := { name := "<init>", desc := "([C)V", sig := { parameters := [(.array .char)], returnType := none }, accessFlags := 1, code := some k8c1 }
def k8c2 : Code := { maxStack := 2, maxLocals := 3, code := jdk_42_method_66_code, exceptionTable := #[], attributes := #[] }
def k8m2 : Method := { name := "equals", desc := "(Ljava/lang/Object;)Z", sig := { parameters := [(.object "java/lang/Object")], returnType := some .boolean }, accessFlags := 1, code := some k8c2 }
def k8c3 : Code := { maxStack := 4, maxLocals := 6, code := jdk_42_method_149_code, exceptionTable := #[], attributes := #[] }
def k8m3 : Method := { name := "<init>", desc := "([CIILjava/lang/Void;)V", sig := { parameters := [(.array .char), .int, .int, (.object "java/lang/Void")], returnType := none }, accessFlags := 2, code := some k8c3 }
/-- java/lang/String -/
def k8 : Class := { plain "java/lang/String" (some 0) with
  accessFlags := 49
  interfaces := #[4, 2, 5, 6, 7]
  cf := some (fileOf pool8 10 #[.nestMembers #[1103]] #[{ accessFlags := 1, nameIndex := 5, descriptorIndex := 6, attributes := #[] }, { accessFlags := 1, nameIndex := 5, descriptorIndex := 1010, attributes := #[] }, { accessFlags := 1, nameIndex := 543, descriptorIndex := 573, attributes := #[] }, { accessFlags := 2, nameIndex := 5, descriptorIndex := 29, attributes := #[] }] 49 2 #[1106, 1108, 575, 1110, 1112] #[{ accessFlags := 18, nameIndex := 13, descriptorIndex := 14, attributes := #[] }, { accessFlags := 18, nameIndex := 17, descriptorIndex := 18, attributes := #[] }, { accessFlags := 2, nameIndex := 21, descriptorIndex := 22, attributes := #[] }, { accessFlags := 2, nameIndex := 25, descriptorIndex := 26, attributes := #[] }, { accessFlags := 26, nameIndex := 1116, descriptorIndex := 1117, attributes := #[] }, { accessFlags := 24, nameIndex := 40, descriptorIndex := 26, attributes := #[] }, { accessFlags := 26, nameIndex := 1101, descriptorIndex := 1102, attributes := #[] }, { accessFlags := 26, nameIndex := 1121, descriptorIndex := 1122, attributes := #[] }, { accessFlags := 25, nameIndex := 599, descriptorIndex := 600, attributes := #[] }, { accessFlags := 24, nameIndex := 1125, descriptorIndex := 18, attributes := #[] }, { accessFlags := 24, nameIndex := 1127, descriptorIndex := 18, attributes := #[] }])
  fields := #[{ name := "value", type := (.array .byte), accessFlags := 18, slot := 0, constantValue := 0 }, { name := "coder", type := .byte, accessFlags := 18, slot := 1, constantValue := 0 }, { name := "hash", type := .int, accessFlags := 2, slot := 2, constantValue := 0 }, { name := "hashIsZero", type := .boolean, accessFlags := 2, slot := 3, constantValue := 0 }, { name := "serialVersionUID", type := .long, accessFlags := 26, slot := 0, constantValue := 0 }, { name := "COMPACT_STRINGS", type := .boolean, accessFlags := 24, slot := 1, constantValue := 0 }, { name := "serialPersistentFields", type := (.array (.object "java/io/ObjectStreamField")), accessFlags := 26, slot := 2, constantValue := 0 }, { name := "REPL", type := .char, accessFlags := 26, slot := 3, constantValue := 0 }, { name := "CASE_INSENSITIVE_ORDER", type := (.object "java/util/Comparator"), accessFlags := 25, slot := 4, constantValue := 0 }, { name := "LATIN1", type := .byte, accessFlags := 24, slot := 5, constantValue := 0 }, { name := "UTF16", type := .byte, accessFlags := 24, slot := 6, constantValue := 0 }]
  methods := #[k8m0, k8m1, k8m2, k8m3]
  instanceTypes := #[(.array .byte), .byte, .int, .boolean]
  staticTypes := #[.long, .boolean, (.array (.object "java/io/ObjectStreamField")), .char, (.object "java/util/Comparator"), .byte, .byte]
  resolved := Array.replicate 1451 none
  statics := some 0 }

def pool9 : Array CpInfo := pool [(2, .class_ 4), (1, u "java/lang/Object"), (0, u "<init>"), (0, u "()V"), (35, .class_ 44), (1, u "java/util/Objects"), (0, u "requireNonNull"), (48, u "(Ljava/lang/Object;Ljava/lang/String;)Ljava/lang/Object;")] 89

def k9m0 : Method := { name := "<init>", desc := "()V", sig := { parameters := [], returnType := none }, accessFlags := 2, code := none }
def k9c1 : Code := { maxStack := 3, maxLocals := 2, code := jdk_31_method_11_code, exceptionTable := #[], attributes := #[] }
def k9m1 : Method := { name := "requireNonNull", desc := "(Ljava/lang/Object;Ljava/lang/String;)Ljava/lang/Object;", sig := { parameters := [(.object "java/lang/Object"), (.object "java/lang/String")], returnType := some (.object "java/lang/Object") }, accessFlags := 9, code := some k9c1 }
/-- java/util/Objects -/
def k9 : Class := { plain "java/util/Objects" (some 0) with
  accessFlags := 49
  interfaces := #[]
  cf := some (fileOf pool9 42 #[] #[{ accessFlags := 2, nameIndex := 5, descriptorIndex := 6, attributes := #[] }, { accessFlags := 9, nameIndex := 45, descriptorIndex := 94, attributes := #[] }] 49 2 #[] #[])
  fields := #[]
  methods := #[k9m0, k9m1]
  instanceTypes := #[]
  staticTypes := #[]
  resolved := Array.replicate 184 none
  statics := none }

def pool10 : Array CpInfo := pool [(4, .class_ 6), (1, u "java/lang/Object"), (0, u "<init>"), (0, u "()V"), (5, .class_ 16), (1, u "java/lang/StringLatin1"), (104, u "$assertionsDisabled"), (0, u "Z"), (98, .class_ 223), (1, u "java/lang/StringLatin1$LinesSpliterator"), (57, u "equals"), (0, u "([B[B)Z"), (107, .class_ 391), (0, u "java/lang/StringLatin1$CharsSpliterator")] 3

def k10m0 : Method := { name := "<init>", desc := "()V", sig := { parameters := [], returnType := none }, accessFlags := 0, code := none }
def k10c1 : Code := { maxStack := 3, maxLocals := 3, code := jdk_43_method_13_code, exceptionTable := #[], attributes := #[] }
def k10m1 : Method := { name := "equals", desc := "([B[B)Z", sig := { parameters := [(.array .byte), (.array .byte)], returnType := some .boolean }, accessFlags := 9, code := some k10c1 }
/-- java/lang/StringLatin1 -/
def k10 : Class := { plain "java/lang/StringLatin1" (some 0) with
  accessFlags := 48
  interfaces := #[]
  cf := some (fileOf pool10 14 #[.nestMembers #[390, 221]] #[{ accessFlags := 0, nameIndex := 7, descriptorIndex := 8, attributes := #[] }, { accessFlags := 9, nameIndex := 281, descriptorIndex := 282, attributes := #[] }] 48 4 #[] #[{ accessFlags := 4120, nameIndex := 121, descriptorIndex := 122, attributes := #[] }])
  fields := #[{ name := "$assertionsDisabled", type := .boolean, accessFlags := 4120, slot := 0, constantValue := 0 }]
  methods := #[k10m0, k10m1]
  instanceTypes := #[]
  staticTypes := #[.boolean]
  resolved := Array.replicate 395 none
  statics := none }

def pool11 : Array CpInfo := pool [(6, .class_ 8), (1, u "java/lang/Object"), (0, u "<init>"), (0, u "()V"), (1, .class_ 14), (1, u "java/lang/StringUTF16"), (31, u "$assertionsDisabled"), (0, u "Z"), (13, u "HI_BYTE_SHIFT"), (0, u "I"), (2, u "LO_BYTE_SHIFT"), (49, .methodref 12 116), (0, .nameAndType 117 118), (0, u "compress"), (0, u "([CI[BII)I"), (3, u "([CII)[B"), (138, u "coderFromArrayLen"), (0, u "([BI)B"), (106, .class_ 371), (1, u "java/lang/StringUTF16$LinesSpliterator"), (58, u "MAX_LENGTH"), (196, .class_ 628), (0, u "java/lang/StringUTF16$CodePointsSpliterator"), (0, .class_ 630), (0, u "java/lang/StringUTF16$CharsSpliterator")] 4

def k11m0 : Method := { name := "<init>", desc := "()V", sig := { parameters := [], returnType := none }, accessFlags := 0, code := none }
def k11c1 : Code := { maxStack := 2, maxLocals := 2, code := jdk_52_method_15_code, exceptionTable := #[], attributes := #[] }
def k11m1 : Method := { name := "coderFromArrayLen", desc := "([BI)B", sig := { parameters := [(.array .byte), .int], returnType := some .byte }, accessFlags := 8, code := some k11c1 }
def k11c2 : Code := { maxStack := 5, maxLocals := 6, code := jdk_52_method_16_code, exceptionTable := #[], attributes := #[] }
def k11m2 : Method := { name := "compress", desc := "([CII)[B", sig := { parameters := [(.array .char), .int, .int], returnType := some (.array .byte) }, accessFlags := 9, code := some k11c2 }
def k11c3 : Code := { maxStack := 3, maxLocals := 7, code := jdk_52_method_21_code, exceptionTable := #[], attributes := #[] }
def k11m3 : Method := { name := "compress", desc := "([CI[BII)I", sig := { parameters := [(.array .char), .int, (.array .byte), .int, .int], returnType := some .int }, accessFlags := 9, code := some k11c3 }
/-- java/lang/StringUTF16 -/
def k11 : Class := { plain "java/lang/StringUTF16" (some 0) with
  accessFlags := 48
  interfaces := #[]
  cf := some (fileOf pool11 12 #[.nestMembers #[627, 629, 369]] #[{ accessFlags := 0, nameIndex := 9, descriptorIndex := 10, attributes := #[] }, { accessFlags := 8, nameIndex := 261, descriptorIndex := 262, attributes := #[] }, { accessFlags := 9, nameIndex := 117, descriptorIndex := 122, attributes := #[] }, { accessFlags := 9, nameIndex := 117, descriptorIndex := 118, attributes := #[] }] 48 6 #[] #[{ accessFlags := 26, nameIndex := 61, descriptorIndex := 62, attributes := #[] }, { accessFlags := 26, nameIndex := 65, descriptorIndex := 62, attributes := #[] }, { accessFlags := 24, nameIndex := 430, descriptorIndex := 62, attributes := #[] }, { accessFlags := 4120, nameIndex := 46, descriptorIndex := 47, attributes := #[] }])
  fields := #[{ name := "HI_BYTE_SHIFT", type := .int, accessFlags := 26, slot := 0, constantValue := 0 }, { name := "LO_BYTE_SHIFT", type := .int, accessFlags := 26, slot := 1, constantValue := 0 }, { name := "MAX_LENGTH", type := .int, accessFlags := 24, slot := 2, constantValue := 0 }, { name := "$assertionsDisabled", type := .boolean, accessFlags := 4120, slot := 3, constantValue := 0 }]
  methods := #[k11m0, k11m1, k11m2, k11m3]
  instanceTypes := #[]
  staticTypes := #[.int, .int, .int, .boolean]
  resolved := Array.replicate 635 none
  statics := none }

def pool12 : Array CpInfo := pool [(2, .class_ 4), (1, u "java/lang/Object"), (0, u "<init>"), (0, u "()V"), (17, .class_ 26), (1, u "jdk/internal/util/Preconditions"), (28, .class_ 56), (0, u "jdk/internal/util/Preconditions$4"), (57, .class_ 115), (0, u "jdk/internal/util/Preconditions$1"), (7, u "SIOOBE_FORMATTER"), (0, u "Ljava/util/function/BiFunction;"), (0, .class_ 126), (0, u "jdk/internal/util/Preconditions$2"), (3, u "AIOOBE_FORMATTER"), (0, .class_ 132), (0, u "jdk/internal/util/Preconditions$3"), (3, u "IOOBE_FORMATTER")] 57

def k12m0 : Method := { name := "<init>", desc := "()V", sig := { parameters := [], returnType := none }, accessFlags := 1, code := none }
/-- jdk/internal/util/Preconditions -/
def k12 : Class := { plain "jdk/internal/util/Preconditions" (some 0) with
  accessFlags := 33
  interfaces := #[]
  cf := some (fileOf pool12 24 #[.nestMembers #[55, 131, 125, 114]] #[{ accessFlags := 1, nameIndex := 5, descriptorIndex := 6, attributes := #[] }] 33 2 #[] #[{ accessFlags := 25, nameIndex := 123, descriptorIndex := 124, attributes := #[] }, { accessFlags := 25, nameIndex := 130, descriptorIndex := 124, attributes := #[] }, { accessFlags := 25, nameIndex := 136, descriptorIndex := 124, attributes := #[] }])
  fields := #[{ name := "SIOOBE_FORMATTER", type := (.object "java/util/function/BiFunction"), accessFlags := 25, slot := 0, constantValue := 0 }, { name := "AIOOBE_FORMATTER", type := (.object "java/util/function/BiFunction"), accessFlags := 25, slot := 1, constantValue := 0 }, { name := "IOOBE_FORMATTER", type := (.object "java/util/function/BiFunction"), accessFlags := 25, slot := 2, constantValue := 0 }]
  methods := #[k12m0]
  instanceTypes := #[]
  staticTypes := #[(.object "java/util/function/BiFunction"), (.object "java/util/function/BiFunction"), (.object "java/util/function/BiFunction")]
  resolved := Array.replicate 194 none
  statics := some 1 }

def pool13 : Array CpInfo := pool [(9, u "<init>"), (6, .class_ 18), (1, u "java/lang/Object"), (0, u "()V"), (1, .class_ 23), (1, u "jdk/internal/util/ArraysSupport"), (0, u "LOG2_ARRAY_LONG_INDEX_SCALE"), (0, u "I"), (2, u "U"), (0, u "Ljdk/internal/misc/Unsafe;"), (8, u "BIG_ENDIAN"), (0, u "Z"), (8, u "LOG2_BYTE_BIT_SIZE"), (4, u "LOG2_ARRAY_INT_INDEX_SCALE"), (54, u "JLA"), (0, u "Ljdk/internal/access/JavaLangAccess;"), (11, u "LOG2_ARRAY_BOOLEAN_INDEX_SCALE"), (9, u "LOG2_ARRAY_BYTE_INDEX_SCALE"), (5, u "LOG2_ARRAY_CHAR_INDEX_SCALE"), (5, u "LOG2_ARRAY_SHORT_INDEX_SCALE"), (18, u "LOG2_ARRAY_FLOAT_INDEX_SCALE"), (24, u "LOG2_ARRAY_DOUBLE_INDEX_SCALE"), (89, u "T_BOOLEAN"), (2, u "T_CHAR"), (1, u "T_FLOAT"), (1, u "T_DOUBLE"), (1, u "T_BYTE"), (1, u "T_SHORT"), (1, u "T_INT"), (1, u "T_LONG"), (1, u "SOFT_MAX_ARRAY_LENGTH")] 83

def k13m0 : Method := { name := "<init>", desc := "()V", sig := { parameters := [], returnType := none }, accessFlags := 2, code := none }
/-- jdk/internal/util/ArraysSupport -/
def k13 : Class := { plain "jdk/internal/util/ArraysSupport" (some 0) with
  accessFlags := 33
  interfaces := #[]
  cf := some (fileOf pool13 21 #[] #[{ accessFlags := 2, nameIndex := 9, descriptorIndex := 19, attributes := #[] }] 33 16 #[] #[{ accessFlags := 24, nameIndex := 28, descriptorIndex := 29, attributes := #[] }, { accessFlags := 26, nameIndex := 38, descriptorIndex := 39, attributes := #[] }, { accessFlags := 25, nameIndex := 121, descriptorIndex := 25, attributes := #[] }, { accessFlags := 25, nameIndex := 131, descriptorIndex := 25, attributes := #[] }, { accessFlags := 25, nameIndex := 137, descriptorIndex := 25, attributes := #[] }, { accessFlags := 25, nameIndex := 143, descriptorIndex := 25, attributes := #[] }, { accessFlags := 25, nameIndex := 53, descriptorIndex := 25, attributes := #[] }, { accessFlags := 25, nameIndex := 24, descriptorIndex := 25, attributes := #[] }, { accessFlags := 25, nameIndex := 162, descriptorIndex := 25, attributes := #[] }, { accessFlags := 25, nameIndex := 187, descriptorIndex := 25, attributes := #[] }, { accessFlags := 26, nameIndex := 48, descriptorIndex := 25, attributes := #[] }, { accessFlags := 25, nameIndex := 277, descriptorIndex := 25, attributes := #[] }, { accessFlags := 25, nameIndex := 280, descriptorIndex := 25, attributes := #[] }, { accessFlags := 25, nameIndex := 282, descriptorIndex := 25, attributes := #[] }, { accessFlags := 25, nameIndex := 284, descriptorIndex := 25, attributes := #[] }, { accessFlags := 25, nameIndex := 286, descriptorIndex := 25, attributes := #[] }, { accessFlags := 25, nameIndex := 288, descriptorIndex := 25, attributes := #[] }, { accessFlags := 25, nameIndex := 290, descriptorIndex := 25, attributes := #[] }, { accessFlags := 25, nameIndex := 292, descriptorIndex := 25, attributes := #[] }, { accessFlags := 26, nameIndex := 108, descriptorIndex := 109, attributes := #[] }, { accessFlags := 25, nameIndex := 294, descriptorIndex := 25, attributes := #[] }])
  fields := #[{ name := "U", type := (.object "jdk/internal/misc/Unsafe"), accessFlags := 24, slot := 0, constantValue := 0 }, { name := "BIG_ENDIAN", type := .boolean, accessFlags := 26, slot := 1, constantValue := 0 }, { name := "LOG2_ARRAY_BOOLEAN_INDEX_SCALE", type := .int, accessFlags := 25, slot := 2, constantValue := 0 }, { name := "LOG2_ARRAY_BYTE_INDEX_SCALE", type := .int, accessFlags := 25, slot := 3, constantValue := 0 }, { name := "LOG2_ARRAY_CHAR_INDEX_SCALE", type := .int, accessFlags := 25, slot := 4, constantValue := 0 }, { name := "LOG2_ARRAY_SHORT_INDEX_SCALE", type := .int, accessFlags := 25, slot := 5, constantValue := 0 }, { name := "LOG2_ARRAY_INT_INDEX_SCALE", type := .int, accessFlags := 25, slot := 6, constantValue := 0 }, { name := "LOG2_ARRAY_LONG_INDEX_SCALE", type := .int, accessFlags := 25, slot := 7, constantValue := 0 }, { name := "LOG2_ARRAY_FLOAT_INDEX_SCALE", type := .int, accessFlags := 25, slot := 8, constantValue := 0 }, { name := "LOG2_ARRAY_DOUBLE_INDEX_SCALE", type := .int, accessFlags := 25, slot := 9, constantValue := 0 }, { name := "LOG2_BYTE_BIT_SIZE", type := .int, accessFlags := 26, slot := 10, constantValue := 0 }, { name := "T_BOOLEAN", type := .int, accessFlags := 25, slot := 11, constantValue := 0 }, { name := "T_CHAR", type := .int, accessFlags := 25, slot := 12, constantValue := 0 }, { name := "T_FLOAT", type := .int, accessFlags := 25, slot := 13, constantValue := 0 }, { name := "T_DOUBLE", type := .int, accessFlags := 25, slot := 14, constantValue := 0 }, { name := "T_BYTE", type := .int, accessFlags := 25, slot := 15, constantValue := 0 }, { name := "T_SHORT", type := .int, accessFlags := 25, slot := 16, constantValue := 0 }, { name := "T_INT", type := .int, accessFlags := 25, slot := 17, constantValue := 0 }, { name := "T_LONG", type := .int, accessFlags := 25, slot := 18, constantValue := 0 }, { name := "JLA", type := (.object "jdk/internal/access/JavaLangAccess"), accessFlags := 26, slot := 19, constantValue := 0 }, { name := "SOFT_MAX_ARRAY_LENGTH", type := .int, accessFlags := 25, slot := 20, constantValue := 0 }]
  methods := #[k13m0]
  instanceTypes := #[]
  staticTypes := #[(.object "jdk/internal/misc/Unsafe"), .boolean, .int, .int, .int, .int, .int, .int, .int, .int, .int, .int, .int, .int, .int, .int, .int, .int, .int, (.object "jdk/internal/access/JavaLangAccess"), .int]
  resolved := Array.replicate 378 none
  statics := none }

def pool14 : Array CpInfo := pool [(1, u "java/lang/Cloneable"), (0, .class_ 1), (0, u "java/lang/Object"), (0, .class_ 3)] 3

/-- java/lang/Cloneable -/
def k14 : Class := { plain "java/lang/Cloneable" (some 0) with
  accessFlags := 1537
  interfaces := #[]
  cf := some (fileOf pool14 2 #[] #[] 1537 4 #[] #[])
  fields := #[]
  methods := #[]
  instanceTypes := #[]
  staticTypes := #[]
  resolved := Array.replicate 8 none
  statics := none }

/-- the primitive byte -/
def k15 : Class := { plain "byte" none with kind := .primitive 'B', accessFlags := 0x411 }
/-- [B -/
def k16 : Class := { plain "[B" (some 0) with kind := .array 15 .byte, interfaces := #[14, 4], accessFlags := 1041 }

/-- the primitive char -/
def k17 : Class := { plain "char" none with kind := .primitive 'C', accessFlags := 0x411 }
/-- [C -/
def k18 : Class := { plain "[C" (some 0) with kind := .array 17 .char, interfaces := #[14, 4], accessFlags := 1041 }

/-- the primitive int -/
def k19 : Class := { plain "int" none with kind := .primitive 'I', accessFlags := 0x411 }
/-- [I -/
def k20 : Class := { plain "[I" (some 0) with kind := .array 19 .int, interfaces := #[14, 4], accessFlags := 1041 }

def heap : Heap := #[{ cls := 8, slots := #[.long 0, .int 1, .null, .int 0, .null, .int 0, .int 0], vm := .statics 8 },
  { cls := 12, slots := #[.null, .null, .null], vm := .statics 12 }]
def classes : Array Class := #[k0, k1, k2, k3, k4, k5, k6, k7, k8, k9, k10, k11, k12, k13, k14, k15, k16, k17, k18, k19, k20]
def interned : List (Array UInt16 × Addr) := []
def slotsUsed : Nat := 10
def theMethod : MethodId := ⟨1, 1⟩
def args0 : Array Value := #[.int 5, .int 7, .int 6, .int 9, .int 11]
def aboutOver (below : List Frame) : State where
  vm := { classes := classes, interned := interned.toArray }
  heap := heap
  slotsUsed := slotsUsed
  threads := #[{ frames := .invoking theMethod args0 :: below }]
def below0 : List Frame := [.native { method := ⟨0, 0⟩, args := #[] }]
def about1 : State := aboutOver below0
def p0 : Program := .bare "" "" ""
def e0 : Env := launch0.env 0 0 0
theorem w_frames : about1.frames = Frame.invoking theMethod args0 :: below0 := rfl
set_option maxRecDepth 65536 in
theorem w_args : argsFit about1.vm theMethod args0 = true := by decide +kernel
set_option maxRecDepth 65536 in
theorem w_heap : heapFits about1 = true := by decide +kernel
set_option maxRecDepth 65536 in
theorem w_runnable : about1.curStatus? = some .runnable := by decide +kernel
set_option maxRecDepth 65536 in
theorem w_alone : about1.alone = true := by decide +kernel
set_option maxRecDepth 65536 in
theorem w_named : about1.methodNamed? x = some theMethod := by decide +kernel
set_option maxRecDepth 65536 in
theorem w_hears : about1.hears theMethod below0 = true := by decide +kernel
set_option maxRecDepth 65536 in
theorem w_ripe : about1.ripe theMethod args0 below0 = true := by decide +kernel
theorem w_running : about1.status = .running := rfl
set_option maxRecDepth 65536 in
theorem w_room : about1.hasRoom e0.platform room_1 = true :=
  launch0.hasRoom_least _ room_1 (by decide +kernel) (by decide +kernel) (by decide +kernel) (by decide +kernel) (by decide +kernel) (by decide +kernel)
theorem allAtoms_all (ts : List Jvm.Cond) (a : Array Jvm.Value) (st : Jvm.State) : (allAtoms ts).before a st = ts.all (fun c => c.before a st) := by
  induction ts with
  | nil => rfl
  | cons c t ih =>
    show (Jvm.Cond.and c (allAtoms t)).before a st = _
    rw [Jvm.Cond.before_and, ih, List.all_cons]
def words1 : List Jvm.Cond := Jvm.Cond.code x code maxLocals ret :: tables_1
/-- a 'code' word, met by the world's own term for the bytes: nothing is compared byte by byte -/
theorem code_word {y : MethodName} {bytes : ByteArray} {mx : Nat} {rt : Option FieldType} {a : Array Value} {s : State} {m : MethodId} {meth : Method} {c : Code} (h1 : s.methodNamed? y = some m) (h2 : s.vm.method? m = some meth) (h3 : meth.code = some c) (h4 : c.code = bytes)
    (h5 : (c.maxLocals == mx && c.exceptionTable.isEmpty && decide (c.maxStack ≤ mostOperands) && decide (meth.sig.returnType = rt) && !meth.locks && decide (parseMethodDescriptor y.desc = some meth.sig)) = true) : (Jvm.Cond.code y bytes mx rt).before a s = true := by
  simp only [Bool.and_eq_true, beq_iff_eq, Bool.not_eq_true', decide_eq_true_eq] at h5
  obtain ⟨⟨⟨⟨⟨g1, g2⟩, g3⟩, g4⟩, g5⟩, g6⟩ := h5
  simp [Cond.before, Cond.holds, Cond.value, h1, h2, h3, h4, g1, g2, g3, g4, g5, g6]
def isCode : Jvm.Cond → Bool
  | .code _ _ _ _ => true
  | _ => false
theorem all_split {L : List Jvm.Cond} {P : Jvm.Cond → Bool} (h1 : L.all (fun c => isCode c || P c) = true) (h2 : ∀ c ∈ L.filter isCode, P c = true) : L.all P = true := by
  refine List.all_eq_true.mpr fun c hc => ?_
  have h := List.all_eq_true.mp h1 c hc
  rcases Bool.eq_false_or_eq_true (isCode c) with hi | hi
  · exact h2 c (List.mem_filter.mpr ⟨hc, hi⟩)
  · simpa [hi] using h
set_option maxRecDepth 65536 in
theorem w_c0 : (Jvm.Cond.code x code maxLocals ret).before args0 about1 = true := code_word (m := ⟨1, 1⟩) (meth := k1m1) (c := k1c1) (by decide +kernel) rfl rfl rfl (by decide +kernel)
set_option maxRecDepth 65536 in
theorem w_c1 : (Jvm.Cond.code ({ cls := "com/example/ipomoea/ipomoea/store/JobKeyEqualsPinLaw", name := "mk", desc := "(I)Ljava/lang/String;" } : Jvm.MethodName) method_4_code (4 : Nat) (Option.some (Jvm.ClassFile.FieldType.object "java/lang/String"))).before args0 about1 = true := code_word (m := ⟨1, 3⟩) (meth := k1m3) (c := k1c3) (by decide +kernel) rfl rfl rfl (by decide +kernel)
set_option maxRecDepth 65536 in
theorem w_c2 : (Jvm.Cond.code ({ cls := "com/example/ipomoea/ipomoea/store/JobKeyEqualsPinLaw", name := "len", desc := "(I)I" } : Jvm.MethodName) method_3_code (1 : Nat) (Option.some Jvm.ClassFile.FieldType.int)).before args0 about1 = true := code_word (m := ⟨1, 2⟩) (meth := k1m2) (c := k1c2) (by decide +kernel) rfl rfl rfl (by decide +kernel)
set_option maxRecDepth 65536 in
theorem w_c3 : (Jvm.Cond.code ({ cls := "java/lang/String", name := "<init>", desc := "([C)V" } : Jvm.MethodName) jdk_42_method_3_code (2 : Nat) (Option.none : Option Jvm.ClassFile.FieldType)).before args0 about1 = true := code_word (m := ⟨8, 1⟩) (meth := k8m1) (c := k8c1) (by decide +kernel) rfl rfl rfl (by decide +kernel)
set_option maxRecDepth 65536 in
theorem w_c4 : (Jvm.Cond.code ({ cls := "java/lang/String", name := "<init>", desc := "([CIILjava/lang/Void;)V" } : Jvm.MethodName) jdk_42_method_149_code (6 : Nat) (Option.none : Option Jvm.ClassFile.FieldType)).before args0 about1 = true := code_word (m := ⟨8, 3⟩) (meth := k8m3) (c := k8c3) (by decide +kernel) rfl rfl rfl (by decide +kernel)
set_option maxRecDepth 65536 in
theorem w_c5 : (Jvm.Cond.code ({ cls := "java/lang/Object", name := "<init>", desc := "()V" } : Jvm.MethodName) object_method_1_code (1 : Nat) (Option.none : Option Jvm.ClassFile.FieldType)).before args0 about1 = true := code_word (m := ⟨0, 0⟩) (meth := k0m0) (c := k0c0) (by decide +kernel) rfl rfl rfl (by decide +kernel)
set_option maxRecDepth 65536 in
theorem w_c6 : (Jvm.Cond.code ({ cls := "com/example/ipomoea/ipomoea/store/JobKey", name := "<init>", desc := "(Ljava/lang/String;Ljava/lang/String;)V" } : Jvm.MethodName) prog_27_method_1_code (3 : Nat) (Option.none : Option Jvm.ClassFile.FieldType)).before args0 about1 = true := code_word (m := ⟨3, 0⟩) (meth := k3m0) (c := k3c0) (by decide +kernel) rfl rfl rfl (by decide +kernel)
set_option maxRecDepth 65536 in
theorem w_c7 : (Jvm.Cond.code ({ cls := "java/util/Objects", name := "requireNonNull", desc := "(Ljava/lang/Object;Ljava/lang/String;)Ljava/lang/Object;" } : Jvm.MethodName) jdk_31_method_11_code (2 : Nat) (Option.some (Jvm.ClassFile.FieldType.object "java/lang/Object"))).before args0 about1 = true := code_word (m := ⟨9, 1⟩) (meth := k9m1) (c := k9c1) (by decide +kernel) rfl rfl rfl (by decide +kernel)
set_option maxRecDepth 65536 in
theorem w_c8 : (Jvm.Cond.code ({ cls := "com/example/ipomoea/ipomoea/store/JobKey", name := "equals", desc := "(Ljava/lang/Object;)Z" } : Jvm.MethodName) prog_27_method_5_code (3 : Nat) (Option.some Jvm.ClassFile.FieldType.boolean)).before args0 about1 = true := code_word (m := ⟨3, 1⟩) (meth := k3m1) (c := k3c1) (by decide +kernel) rfl rfl rfl (by decide +kernel)
set_option maxRecDepth 65536 in
theorem w_c9 : (Jvm.Cond.code ({ cls := "com/example/ipomoea/ipomoea/store/JobKeyEqualsPinLaw", name := "same", desc := "(II)Z" } : Jvm.MethodName) method_5_code (3 : Nat) (Option.some Jvm.ClassFile.FieldType.boolean)).before args0 about1 = true := code_word (m := ⟨1, 4⟩) (meth := k1m4) (c := k1c4) (by decide +kernel) rfl rfl rfl (by decide +kernel)
set_option maxRecDepth 65536 in
theorem w_c10 : (Jvm.Cond.code ({ cls := "java/lang/String", name := "equals", desc := "(Ljava/lang/Object;)Z" } : Jvm.MethodName) jdk_42_method_66_code (3 : Nat) (Option.some Jvm.ClassFile.FieldType.boolean)).before args0 about1 = true := code_word (m := ⟨8, 2⟩) (meth := k8m2) (c := k8c2) (by decide +kernel) rfl rfl rfl (by decide +kernel)
set_option maxRecDepth 65536 in
theorem w_c11 : (Jvm.Cond.code ({ cls := "java/lang/StringLatin1", name := "equals", desc := "([B[B)Z" } : Jvm.MethodName) jdk_43_method_13_code (3 : Nat) (Option.some Jvm.ClassFile.FieldType.boolean)).before args0 about1 = true := code_word (m := ⟨10, 1⟩) (meth := k10m1) (c := k10c1) (by decide +kernel) rfl rfl rfl (by decide +kernel)
set_option maxRecDepth 65536 in
theorem w_c12 : (Jvm.Cond.code ({ cls := "java/lang/StringUTF16", name := "compress", desc := "([CII)[B" } : Jvm.MethodName) jdk_52_method_16_code (6 : Nat) (Option.some (Jvm.ClassFile.FieldType.array Jvm.ClassFile.FieldType.byte))).before args0 about1 = true := code_word (m := ⟨11, 2⟩) (meth := k11m2) (c := k11c2) (by decide +kernel) rfl rfl rfl (by decide +kernel)
set_option maxRecDepth 65536 in
theorem w_c13 : (Jvm.Cond.code ({ cls := "java/lang/StringUTF16", name := "compress", desc := "([CI[BII)I" } : Jvm.MethodName) jdk_52_method_21_code (7 : Nat) (Option.some Jvm.ClassFile.FieldType.int)).before args0 about1 = true := code_word (m := ⟨11, 3⟩) (meth := k11m3) (c := k11c3) (by decide +kernel) rfl rfl rfl (by decide +kernel)
set_option maxRecDepth 65536 in
theorem w_c14 : (Jvm.Cond.code ({ cls := "java/lang/StringUTF16", name := "coderFromArrayLen", desc := "([BI)B" } : Jvm.MethodName) jdk_52_method_15_code (2 : Nat) (Option.some Jvm.ClassFile.FieldType.byte)).before args0 about1 = true := code_word (m := ⟨11, 1⟩) (meth := k11m1) (c := k11c1) (by decide +kernel) rfl rfl rfl (by decide +kernel)
def codes1 : List Jvm.Cond := [Jvm.Cond.code x code maxLocals ret, Jvm.Cond.code ({ cls := "com/example/ipomoea/ipomoea/store/JobKeyEqualsPinLaw", name := "mk", desc := "(I)Ljava/lang/String;" } : Jvm.MethodName) method_4_code (4 : Nat) (Option.some (Jvm.ClassFile.FieldType.object "java/lang/String")), Jvm.Cond.code ({ cls := "com/example/ipomoea/ipomoea/store/JobKeyEqualsPinLaw", name := "len", desc := "(I)I" } : Jvm.MethodName) method_3_code (1 : Nat) (Option.some Jvm.ClassFile.FieldType.int), Jvm.Cond.code ({ cls := "java/lang/String", name := "<init>", desc := "([C)V" } : Jvm.MethodName) jdk_42_method_3_code (2 : Nat) (Option.none : Option Jvm.ClassFile.FieldType), Jvm.Cond.code ({ cls := "java/lang/String", name := "<init>", desc := "([CIILjava/lang/Void;)V" } : Jvm.MethodName) jdk_42_method_149_code (6 : Nat) (Option.none : Option Jvm.ClassFile.FieldType), Jvm.Cond.code ({ cls := "java/lang/Object", name := "<init>", desc := "()V" } : Jvm.MethodName) object_method_1_code (1 : Nat) (Option.none : Option Jvm.ClassFile.FieldType), Jvm.Cond.code ({ cls := "com/example/ipomoea/ipomoea/store/JobKey", name := "<init>", desc := "(Ljava/lang/String;Ljava/lang/String;)V" } : Jvm.MethodName) prog_27_method_1_code (3 : Nat) (Option.none : Option Jvm.ClassFile.FieldType), Jvm.Cond.code ({ cls := "java/util/Objects", name := "requireNonNull", desc := "(Ljava/lang/Object;Ljava/lang/String;)Ljava/lang/Object;" } : Jvm.MethodName) jdk_31_method_11_code (2 : Nat) (Option.some (Jvm.ClassFile.FieldType.object "java/lang/Object")), Jvm.Cond.code ({ cls := "com/example/ipomoea/ipomoea/store/JobKey", name := "equals", desc := "(Ljava/lang/Object;)Z" } : Jvm.MethodName) prog_27_method_5_code (3 : Nat) (Option.some Jvm.ClassFile.FieldType.boolean), Jvm.Cond.code ({ cls := "com/example/ipomoea/ipomoea/store/JobKeyEqualsPinLaw", name := "same", desc := "(II)Z" } : Jvm.MethodName) method_5_code (3 : Nat) (Option.some Jvm.ClassFile.FieldType.boolean), Jvm.Cond.code ({ cls := "java/lang/String", name := "equals", desc := "(Ljava/lang/Object;)Z" } : Jvm.MethodName) jdk_42_method_66_code (3 : Nat) (Option.some Jvm.ClassFile.FieldType.boolean), Jvm.Cond.code ({ cls := "java/lang/StringLatin1", name := "equals", desc := "([B[B)Z" } : Jvm.MethodName) jdk_43_method_13_code (3 : Nat) (Option.some Jvm.ClassFile.FieldType.boolean), Jvm.Cond.code ({ cls := "java/lang/StringUTF16", name := "compress", desc := "([CII)[B" } : Jvm.MethodName) jdk_52_method_16_code (6 : Nat) (Option.some (Jvm.ClassFile.FieldType.array Jvm.ClassFile.FieldType.byte)), Jvm.Cond.code ({ cls := "java/lang/StringUTF16", name := "compress", desc := "([CI[BII)I" } : Jvm.MethodName) jdk_52_method_21_code (7 : Nat) (Option.some Jvm.ClassFile.FieldType.int), Jvm.Cond.code ({ cls := "java/lang/StringUTF16", name := "coderFromArrayLen", desc := "([BI)B" } : Jvm.MethodName) jdk_52_method_15_code (2 : Nat) (Option.some Jvm.ClassFile.FieldType.byte)]
set_option maxRecDepth 65536 in
theorem codes_eq : words1.filter isCode = codes1 := rfl
theorem w_codes : ∀ c ∈ words1.filter isCode, c.before args0 about1 = true := by
  rw [codes_eq]
  intro c hc
  simp only [codes1, List.mem_cons, List.not_mem_nil, or_false] at hc
  rcases hc with rfl | rfl | rfl | rfl | rfl | rfl | rfl | rfl | rfl | rfl | rfl | rfl | rfl | rfl | rfl
  · exact w_c0
  · exact w_c1
  · exact w_c2
  · exact w_c3
  · exact w_c4
  · exact w_c5
  · exact w_c6
  · exact w_c7
  · exact w_c8
  · exact w_c9
  · exact w_c10
  · exact w_c11
  · exact w_c12
  · exact w_c13
  · exact w_c14
set_option maxRecDepth 65536 in
theorem w_t1 : (words1.take 24).all (fun c => isCode c || c.before args0 about1) = true := by decide +kernel
set_option maxRecDepth 65536 in
theorem w_t2 : ((words1.drop 24).take 24).all (fun c => isCode c || c.before args0 about1) = true := by decide +kernel
set_option maxRecDepth 65536 in
theorem w_t3 : (((words1.drop 24).drop 24).take 24).all (fun c => isCode c || c.before args0 about1) = true := by decide +kernel
set_option maxRecDepth 65536 in
theorem w_t4 : (((words1.drop 24).drop 24).drop 24).all (fun c => isCode c || c.before args0 about1) = true := by decide +kernel
theorem w_tables : (allAtoms (Jvm.Cond.code x code maxLocals ret :: tables_1)).before args0 about1 = true := by
  rw [allAtoms_all]
  show words1.all (fun c => c.before args0 about1) = true
  refine all_split ?_ w_codes
  rw [← List.take_append_drop 24 words1, List.all_append, w_t1, ← List.take_append_drop 24 (words1.drop 24), List.all_append, w_t2, ← List.take_append_drop 24 ((words1.drop 24).drop 24), List.all_append, w_t3, w_t4]
  rfl
set_option maxRecDepth 65536 in
theorem w_rest : rest_1_c.before args0 about1 = true := by decide +kernel
set_option maxRecDepth 65536 in
theorem w_case : (Jvm.Cond.and given_1 narrow_1).before args0 about1 = true := by decide +kernel
set_option maxRecDepth 65536 in
theorem w_consts : constsHeld consts_1 about1 := Jvm.Lit.constsHeldB_iff.mp (by decide +kernel)
theorem w_applies : (headSpec (Jvm.Cond.code x code maxLocals ret :: tables_1) room_1).applies x e0.platform about1 = true :=
  (Spec.applies_iff w_frames).mpr ⟨w_running, w_runnable, w_alone, w_named, w_hears, w_ripe, w_room, w_tables⟩
theorem atStart : AtStart classFile x code maxLocals ret World_1 tables_1 room_1 Calls_1 rest_1 Pre_1 launch0 p0 e0 about1 theMethod args0 below0 :=
  ⟨lists_1, trivial, launch0.admits_env _ _ _, launch0.least_env, fairChoices_fair.cas, fairChoices_fair.clock, w_frames, w_args, w_heap, w_applies, ⟨w_consts, trivial⟩, w_rest, w_case⟩
end start1
theorem witness_1 : WitnessClaimed_1 := ⟨start1.p0, start1.e0, start1.about1, start1.theMethod, start1.args0, start1.below0, start1.atStart⟩
end Jvm.Pilot.@@N@@
