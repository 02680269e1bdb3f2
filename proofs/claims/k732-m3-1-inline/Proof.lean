import JvmDerived
import JvmDerived.Pilot.@@N@@Statement
import JvmDerived.Pilot.@@N@@Code
set_option linter.unusedVariables false
set_option linter.unusedSimpArgs false
namespace Jvm.RoadKit
open Sem ClassFile Op Lib Jvm.Stand Jvm.Free Jvm.LawKit
section New
variable {p : Program} {l : Launch} {e : Env} {R : Room} {s : State} {m : MethodId} {args : Array Value} {below : List Frame} {meth : Method} {c : Code} {T : State} {locs : List Loc} {cells slots : Nat}
theorem retI (X : Stand p l e R s m args below meth c T locs cells slots) (hx : p.tables.exec = Jvm.exec) {pc : Nat} {Ls : Array Slot} {z : Int32} {rest : List Value} (hret : meth.sig.returnType = some .int) (hd : decode c.code pc = .ok (.ireturn, 1)) {fs : List Frame}
    (hl : ∀ (f : JFrame) (acts : List Action), f.method = m → f.locked = none → f.entered = [] → (doReturn e (T.setTop f) acts (some (.int z))).1 = T.setFrames fs) : Steps p.tables e below (T.setTop (mkF m pc Ls (.int z :: rest))) (T.setFrames fs) := by
  have hm' : T.vm.method? m = some meth := X.method'
  have hn : narrow .int (.int z) = .int z := rfl
  show Steps p.tables e below (T.setTop { method := m, pc := pc, locals := Ls, stack := _ :: rest, locked := none }) _
  jvm_step X.here [X.here.top, hx, hd, hm', hret, hn]
  first | (intro acts; rw [hl _ acts rfl rfl rfl]) | rw [hl _ _ rfl rfl rfl]
  exact Steps.refl _
end New
end Jvm.RoadKit
/- laws to paste: Road.backV (cut by pick.py; bodies as the Statement names them) -/
namespace Jvm.Pilot.@@N@@
namespace StrChars
open Jvm Sem ClassFile Op Lib Jvm.Stand Jvm.Free.XT Jvm.Free.ALB Jvm.Free.JM Jvm.Free
open Jvm.Lib.Cold (StaticIs)
/-- a char array whose places are chars -/
def Ch (a : Addr) (A : Cell) (U : State) : Prop := Arr .char a A U ∧ Typed .char A
theorem Ch.mv {a : Addr} {A : Cell} {U U' : State} (h : Ch a A U) (hal : U.vm.Alike U'.vm) (hh : U'.heap = U.heap) : Ch a A U' := ⟨h.1.mv hal hh, h.2⟩
theorem Ch.keep {a : Addr} {A : Cell} {U U' : State} (h : Ch a A U) (hal : U.vm.Alike U'.vm) (hk : U'.heap[a]? = some A) : Ch a A U' := ⟨h.1.keep hal hk, h.2⟩
/-- what place i of a char[]'s cell holds -/
def cv (A : Cell) (i : Nat) : Int32 := match A.slots[i]? with | some (.int x) => x | _ => 0
theorem Ch.get {a : Addr} {A : Cell} {U : State} (h : Ch a A U) {i : Nat} (hi : i < A.slots.size) : A.slots[i]? = some (.int (cv A i)) := by
  have e := Array.getElem?_eq_getElem hi
  have f := h.2 i _ e
  unfold cv; rw [e]
  generalize A.slots[i] = v at f
  cases v <;> simp [fits] at f ⊢
/-- the byte that i2b leaves of a char -/
def lo8 (x : Int32) : Int32 := x.toInt8.toInt32
theorem fits_lo8 (y : Int32) : fits .byte (.int (lo8 y)) = true := by
  have h1 := y.toInt8.le_toInt
  have h2 := y.toInt8.toInt_lt
  simp only [lo8, fits, Bool.and_eq_true, decide_eq_true_eq, Int32.le_iff_toInt_le, Int8.toInt_toInt32, show (-128 : Int32).toInt = -128 from by decide, show (127 : Int32).toInt = 127 from by decide]
  omega
/-- A' is A but that each place j of lo .. hi - 1 holds f j -/
def Laid (A A' : Cell) (lo hi : Nat) (f : Nat → Value) : Prop := A'.cls = A.cls ∧ A'.vm = A.vm ∧ A'.slots.size = A.slots.size ∧ ∀ i, A'.slots[i]? = if lo ≤ i ∧ i < hi then some (f i) else A.slots[i]?
theorem Laid.zero (A : Cell) (lo : Nat) (f : Nat → Value) : Laid A A lo (lo + 0) f := ⟨rfl, rfl, rfl, fun i => by rw [if_neg (by omega)]⟩
theorem Laid.step {A Ak : Cell} {lo k : Nat} {f : Nat → Value} {v : Value} (h : Laid A Ak lo k f) (hlo : lo ≤ k) (hk : k < Ak.slots.size) (hv : v = f k) : Laid A (Ak.setSlot k v) lo (k + 1) f := by
  refine ⟨h.1, h.2.1, by simpa [Cell.setSlot] using h.2.2.1, fun i => ?_⟩
  by_cases e : k = i
  · subst e; rw [Cell.slots_setSlot_self v hk, if_pos (by omega), hv]
  · rw [Cell.slots_setSlot_ne v e, h.2.2.2 i]
    by_cases q : lo ≤ i ∧ i < k
    · rw [if_pos q, if_pos (by omega)]
    · rw [if_neg q, if_neg (by omega)]
def U16 : String := "java/lang/StringUTF16"
namespace Cmp5
def yN : MethodName := ⟨"java/lang/StringUTF16", "compress", "([CI[BII)I"⟩
abbrev yB : ByteArray := jdk_52_method_21_code
theorem d0 : decode yB 0 = .ok (.iconst 0, 1) := by decide +kernel
theorem d1 : decode yB 1 = .ok (.istore 5, 2) := by decide +kernel
theorem d3 : decode yB 3 = .ok (.iload 5, 2) := by decide +kernel
theorem d5 : decode yB 5 = .ok (.iload 4, 2) := by decide +kernel
theorem d7 : decode yB 7 = .ok (.if_icmp (.ge) 37, 3) := by decide +kernel
theorem d10 : decode yB 10 = .ok (.aload_n 0, 1) := by decide +kernel
theorem d11 : decode yB 11 = .ok (.iload_n 1, 1) := by decide +kernel
theorem d12 : decode yB 12 = .ok (.caload, 1) := by decide +kernel
theorem d13 : decode yB 13 = .ok (.istore 6, 2) := by decide +kernel
theorem d15 : decode yB 15 = .ok (.iload 6, 2) := by decide +kernel
theorem d17 : decode yB 17 = .ok (.sipush 255, 3) := by decide +kernel
theorem d20 : decode yB 20 = .ok (.if_icmp (.le) 6, 3) := by decide +kernel
theorem d26 : decode yB 26 = .ok (.aload_n 2, 1) := by decide +kernel
theorem d27 : decode yB 27 = .ok (.iload_n 3, 1) := by decide +kernel
theorem d28 : decode yB 28 = .ok (.iload 6, 2) := by decide +kernel
theorem d30 : decode yB 30 = .ok (.i2b, 1) := by decide +kernel
theorem d31 : decode yB 31 = .ok (.bastore, 1) := by decide +kernel
theorem d32 : decode yB 32 = .ok (.iinc 1 1, 3) := by decide +kernel
theorem d35 : decode yB 35 = .ok (.iinc 3 1, 3) := by decide +kernel
theorem d38 : decode yB 38 = .ok (.iinc 5 1, 3) := by decide +kernel
theorem d41 : decode yB 41 = .ok (.goto (-38), 3) := by decide +kernel
theorem d44 : decode yB 44 = .ok (.iload 4, 2) := by decide +kernel
theorem d46 : decode yB 46 = .ok (.ireturn, 1) := by decide +kernel
def site : List Cond := []
def tab : Cond := tabOf yN yB 7 (some .int) site
def P (b : Addr) (A : Cell) (d : Addr) (B : Cell) (o q len : Nat) (args : Array Value) (s : State) : Prop := args = #[.ref b, .int (Int32.ofNat o), .ref d, .int (Int32.ofNat q), .int (Int32.ofNat len)] ∧ Ch b A s ∧ Arr .byte d B s ∧ b ≠ d ∧ o + len ≤ A.slots.size ∧ q + len ≤ B.slots.size ∧ ∀ i, i < len → ¬ 255 < cv A (o + i)
def E (b : Addr) (A : Cell) (d : Addr) (B : Cell) (o q len : Nat) (r : Option Value) (s u : State) : Prop := r = some (.int (Int32.ofNat len)) ∧ ∃ B', Put d B' s u ∧ Laid B B' q (q + len) (fun j => Value.int (lo8 (cv A (o + (j - q)))))
/-- no char of the range above 255: len; the places written hold each char's low byte -/
theorem law (l : Launch) (b : Addr) (A : Cell) (d : Addr) (B : Cell) (o q len : Nat) : Law l yN 5 5 0 0 yB 7 (some .int) site (P b A d B o q len) (E b A d B o q len) (copyLocs d q len) 0 0 := by
  refine Law.of_walk (plainFor_of_name (by decide +kernel)) (by decide +kernel) (by decide +kernel) (by decide) (fun _ _ h => by rw [h.1]; rfl) (fun _ U U' hal hh h => ⟨h.1, h.2.1.mv hal hh, h.2.2.1.mv hal hh, h.2.2.2⟩) (fun r U U' V V' h1 hal h2 h => ⟨h.1, h.2.elim fun B' q => ⟨B', q.1.mv h1 h2, q.2⟩⟩) ?_
  intro p e s m args below meth c s₁ X0 hexec hbytes hml hret hlk hnm hown hh0 W hP
  obtain ⟨rfl, hA, hB, hne, l1, l2, hp⟩ := hP
  have c1 : Steps p.tables e below (s₁.setTop (entryFrame m #[.ref b, .int (Int32.ofNat o), .ref d, .int (Int32.ofNat q), .int (Int32.ofNat len)] 7)) (s₁.setTop (mkF m 0 #[.val (.ref b), .val (.int (Int32.ofNat o)), .val (.ref d), .val (.int (Int32.ofNat q)), .val (.int (Int32.ofNat len)), .unset, .unset] [])) := entry rfl
  have hA0 := hA.1.mv X0.warmed.alike hh0
  have hB0 := hB.mv X0.warmed.alike hh0
  have a31 := hA.1.2.2.2
  have c2 : Steps p.tables e below (s₁.setTop (entryFrame m #[.ref b, .int (Int32.ofNat o), .ref d, .int (Int32.ofNat q), .int (Int32.ofNat len)] 7)) (s₁.setTop (mkF m 3 #[.val (.ref b), .val (.int (Int32.ofNat o)), .val (.ref d), .val (.int (Int32.ofNat q)), .val (.int (Int32.ofNat len)), .val (.int 0), .unset] [])) := c1.trans (by
    refine iconstV X0.here hexec rfl 0 (hb hbytes d0) (by decide) ?_
    refine XS.istore X0.here hexec rfl (hb hbytes d1) rfl rfl ?_
    exact Steps.refl _)
  have loop : ∀ (r i : Nat), i + r = len → ∀ (z : Slot), (z = .unset ∨ ∃ w, z = .val w ∧ w.category = 1) → ∀ (Tl : State) (Bk : Cell), Stand p l e { frames := 0, locals := 0, cells := 0, slots := 0 } s m #[.ref b, .int (Int32.ofNat o), .ref d, .int (Int32.ofNat q), .int (Int32.ofNat len)] below meth c Tl ([] ++ copyLocs d q i) 0 0 → Put d Bk s₁ Tl → Laid B Bk q (q + i) (fun j => Value.int (lo8 (cv A (o + (j - q))))) →
      Steps p.tables e below (s₁.setTop (entryFrame m #[.ref b, .int (Int32.ofNat o), .ref d, .int (Int32.ofNat q), .int (Int32.ofNat len)] 7)) (Tl.setTop (mkF m 3 #[.val (.ref b), .val (.int (Int32.ofNat (o + i))), .val (.ref d), .val (.int (Int32.ofNat (q + i))), .val (.int (Int32.ofNat len)), .val (.int (Int32.ofNat i)), z] [])) → ∃ (T' : State) (B' : Cell) (z' : Slot), Stand p l e { frames := 0, locals := 0, cells := 0, slots := 0 } s m #[.ref b, .int (Int32.ofNat o), .ref d, .int (Int32.ofNat q), .int (Int32.ofNat len)] below meth c T' ([] ++ copyLocs d q len) 0 0 ∧ Put d B' s₁ T' ∧ Laid B B' q (q + len) (fun j => Value.int (lo8 (cv A (o + (j - q))))) ∧
      Steps p.tables e below (s₁.setTop (entryFrame m #[.ref b, .int (Int32.ofNat o), .ref d, .int (Int32.ofNat q), .int (Int32.ofNat len)] 7)) (T'.setTop (mkF m 3 #[.val (.ref b), .val (.int (Int32.ofNat (o + len))), .val (.ref d), .val (.int (Int32.ofNat (q + len))), .val (.int (Int32.ofNat len)), .val (.int (Int32.ofNat len)), z'] [])) := by
    intro r
    induction r with
    | zero =>
      intro i hi z hz Tl Bk Xl pl fl cl
      have hil : i = len := by omega
      rw [hil] at Xl fl cl
      exact ⟨Tl, Bk, z, Xl, pl, fl, cl⟩
    | succ r ih =>
      intro i hi z hz Tl Bk Xl pl fl cl
      have all := X0.warmed.alike.symm.trans Xl.warmed.alike
      have hAl := hA0.keep all (pl.other hne hA0.1)
      have hBk := hB0.like all pl.1 fl.1 fl.2.1 fl.2.2.1
      have hlt : q + i < Bk.slots.size := by rw [fl.2.2.1]; omega
      have c3 : Steps p.tables e below (s₁.setTop (entryFrame m #[.ref b, .int (Int32.ofNat o), .ref d, .int (Int32.ofNat q), .int (Int32.ofNat len)] 7)) (Tl.setTop (mkF m 12 #[.val (.ref b), .val (.int (Int32.ofNat (o + i))), .val (.ref d), .val (.int (Int32.ofNat (q + i))), .val (.int (Int32.ofNat len)), .val (.int (Int32.ofNat i)), z] [.int (Int32.ofNat (o + i)), .ref b])) := cl.trans (by
        refine XS.iload Xl.here hexec rfl (hb hbytes d3) rfl ?_
        refine XS.iload Xl.here hexec rfl (hb hbytes d5) rfl ?_
        refine XS.icmpNo Xl.here hexec rfl (hb hbytes d7) rfl (ii_ge_f (lt32 (by omega) (by omega))) ?_
        refine XS.aloadN Xl.here hexec rfl (hb hbytes d10) rfl rfl ?_
        refine XS.iloadN Xl.here hexec rfl (hb hbytes d11) rfl ?_
        exact Steps.refl _)
      have c4 : Steps p.tables e below (s₁.setTop (entryFrame m #[.ref b, .int (Int32.ofNat o), .ref d, .int (Int32.ofNat q), .int (Int32.ofNat len)] 7)) (Tl.setTop (mkF m 13 #[.val (.ref b), .val (.int (Int32.ofNat (o + i))), .val (.ref d), .val (.int (Int32.ofNat (q + i))), .val (.int (Int32.ofNat len)), .val (.int (Int32.ofNat i)), z] [.int (cv A (o + i))])) := c3.trans (by
        refine Xl.aget hexec hAl rfl (hA.get (i := o + i) (by omega)) rfl rfl (hb hbytes d12) ?_
        exact Steps.refl _)
      have c5 : Steps p.tables e below (s₁.setTop (entryFrame m #[.ref b, .int (Int32.ofNat o), .ref d, .int (Int32.ofNat q), .int (Int32.ofNat len)] 7)) (Tl.setTop (mkF m 15 #[.val (.ref b), .val (.int (Int32.ofNat (o + i))), .val (.ref d), .val (.int (Int32.ofNat (q + i))), .val (.int (Int32.ofNat len)), .val (.int (Int32.ofNat i)), .val (.int (cv A (o + i)))] [])) := c4.trans (by
        refine XS.istoreS Xl.here hexec rfl (hb hbytes d13) rfl rfl hz ?_
        exact Steps.refl _)
      have c6 : Steps p.tables e below (s₁.setTop (entryFrame m #[.ref b, .int (Int32.ofNat o), .ref d, .int (Int32.ofNat q), .int (Int32.ofNat len)] 7)) (Tl.setTop (mkF m 31 #[.val (.ref b), .val (.int (Int32.ofNat (o + i))), .val (.ref d), .val (.int (Int32.ofNat (q + i))), .val (.int (Int32.ofNat len)), .val (.int (Int32.ofNat i)), .val (.int (cv A (o + i)))] [.int (lo8 (cv A (o + i))), .int (Int32.ofNat (q + i)), .ref d])) := c5.trans (by
        refine XS.iload Xl.here hexec rfl (hb hbytes d15) rfl ?_
        refine sipushV Xl.here hexec rfl 255 (hb hbytes d17) (by decide) ?_
        refine XS.icmpYes Xl.here hexec rfl (pc0 := 20) rfl (hb hbytes d20) rfl (ii_le_t (hp i (by omega))) (by decide) rfl ?_
        refine XS.aloadN Xl.here hexec rfl (hb hbytes d26) rfl rfl ?_
        refine XS.iloadN Xl.here hexec rfl (hb hbytes d27) rfl ?_
        refine XS.iload Xl.here hexec rfl (hb hbytes d28) rfl ?_
        refine i2b Xl.here hexec rfl (hb hbytes d30) rfl ?_
        exact Steps.refl _)
      obtain ⟨T7, X7, p7, st7⟩ := Xl.aput hexec hBk rfl hlt rfl (fits_lo8 (cv A (o + i))) (g := (mkF m 31 #[.val (.ref b), .val (.int (Int32.ofNat (o + i))), .val (.ref d), .val (.int (Int32.ofNat (q + i))), .val (.int (Int32.ofNat len)), .val (.int (Int32.ofNat i)), .val (.int (cv A (o + i)))] [.int (lo8 (cv A (o + i))), .int (Int32.ofNat (q + i)), .ref d])) rfl (rest := []) rfl (hb hbytes d31)
      have c8 : Steps p.tables e below (s₁.setTop (entryFrame m #[.ref b, .int (Int32.ofNat o), .ref d, .int (Int32.ofNat q), .int (Int32.ofNat len)] 7)) (T7.setTop (mkF m 32 #[.val (.ref b), .val (.int (Int32.ofNat (o + i))), .val (.ref d), .val (.int (Int32.ofNat (q + i))), .val (.int (Int32.ofNat len)), .val (.int (Int32.ofNat i)), .val (.int (cv A (o + i)))] [])) := c6.trans (st7 _ (Steps.refl _))
      have c9 : Steps p.tables e below (s₁.setTop (entryFrame m #[.ref b, .int (Int32.ofNat o), .ref d, .int (Int32.ofNat q), .int (Int32.ofNat len)] 7)) (T7.setTop (mkF m 3 #[.val (.ref b), .val (.int (Int32.ofNat (o + i) + 1)), .val (.ref d), .val (.int (Int32.ofNat (q + i) + 1)), .val (.int (Int32.ofNat len)), .val (.int (Int32.ofNat i + 1)), .val (.int (cv A (o + i)))] [])) := c8.trans (by
        refine iincV X7.here hexec rfl 1 (hb hbytes d32) (by decide) rfl rfl ?_
        refine iincV X7.here hexec rfl 1 (hb hbytes d35) (by decide) rfl rfl ?_
        refine iincV X7.here hexec rfl 1 (hb hbytes d38) (by decide) rfl rfl ?_
        refine XS.goto X7.here hexec rfl (pc0 := 41) rfl (hb hbytes d41) (by decide) rfl ?_
        exact Steps.refl _)
      have c10 : Steps p.tables e below (s₁.setTop (entryFrame m #[.ref b, .int (Int32.ofNat o), .ref d, .int (Int32.ofNat q), .int (Int32.ofNat len)] 7)) (T7.setTop (mkF m 3 #[.val (.ref b), .val (.int (Int32.ofNat (o + (i + 1)))), .val (.ref d), .val (.int (Int32.ofNat (q + (i + 1)))), .val (.int (Int32.ofNat len)), .val (.int (Int32.ofNat (i + 1))), .val (.int (cv A (o + i)))] [])) := by
        have := c9
        rw [succ32, succ32, succ32] at this
        exact this
      exact ih (i + 1) (by omega) _ (Or.inr ⟨_, rfl, rfl⟩) T7 _ (by rw [copyLocs_step, ← List.append_assoc]; exact X7) (pl.trans p7) (fl.step (by omega) hlt (by simp)) c10
  obtain ⟨T9, B9, z9, X9, p9, f9, g9⟩ := loop len 0 (by omega) .unset (Or.inl rfl) s₁ B (by simpa [copyLocs] using X0) ⟨hB0.1, fun _ _ => rfl, rfl⟩ (Laid.zero _ _ _) c2
  have c11 : Steps p.tables e below (s₁.setTop (entryFrame m #[.ref b, .int (Int32.ofNat o), .ref d, .int (Int32.ofNat q), .int (Int32.ofNat len)] 7)) (T9.setTop (mkF m 46 #[.val (.ref b), .val (.int (Int32.ofNat (o + len))), .val (.ref d), .val (.int (Int32.ofNat (q + len))), .val (.int (Int32.ofNat len)), .val (.int (Int32.ofNat len)), z9] [.int (Int32.ofNat len)])) := g9.trans (by
    refine XS.iload X9.here hexec rfl (hb hbytes d3) rfl ?_
    refine XS.iload X9.here hexec rfl (hb hbytes d5) rfl ?_
    refine XS.icmpYes X9.here hexec rfl (pc0 := 7) rfl (hb hbytes d7) rfl (ii_ge_t (nlt32 (by omega) (Nat.le_refl _))) (by decide) rfl ?_
    refine XS.iload X9.here hexec rfl (hb hbytes d44) rfl ?_
    exact Steps.refl _)
  exact ⟨T9, some (.int (Int32.ofNat len)), _, _, _, X9, by simp, rfl, rfl, (fun h => by cases h), ⟨rfl, B9, p9.from hh0, f9⟩, fun fs hl => c11.trans (X9.ireturnOut hexec hret rfl (Or.inl rfl) (hb hbytes d46) hl)⟩
end Cmp5
namespace Cmp3
def yN : MethodName := ⟨"java/lang/StringUTF16", "compress", "([CII)[B"⟩
abbrev yB : ByteArray := jdk_52_method_16_code
theorem d0 : decode yB 0 = .ok (.iload_n 2, 1) := by decide +kernel
theorem d1 : decode yB 1 = .ok (.newarray .byte, 2) := by decide +kernel
theorem d3 : decode yB 3 = .ok (.astore_n 3, 1) := by decide +kernel
theorem d4 : decode yB 4 = .ok (.aload_n 0, 1) := by decide +kernel
theorem d5 : decode yB 5 = .ok (.iload_n 1, 1) := by decide +kernel
theorem d6 : decode yB 6 = .ok (.aload_n 3, 1) := by decide +kernel
theorem d7 : decode yB 7 = .ok (.iconst 0, 1) := by decide +kernel
theorem d8 : decode yB 8 = .ok (.iload_n 2, 1) := by decide +kernel
theorem d9 : decode yB 9 = .ok (.invokestatic 115, 3) := by decide +kernel
theorem d12 : decode yB 12 = .ok (.istore 4, 2) := by decide +kernel
theorem d14 : decode yB 14 = .ok (.iload 4, 2) := by decide +kernel
theorem d16 : decode yB 16 = .ok (.iload_n 2, 1) := by decide +kernel
theorem d17 : decode yB 17 = .ok (.if_icmp (.eq) 40, 3) := by decide +kernel
theorem d57 : decode yB 57 = .ok (.aload_n 3, 1) := by decide +kernel
theorem d58 : decode yB 58 = .ok (.areturn, 1) := by decide +kernel
def site : List Cond := [.arrayClass .byte, Cmp5.tab] ++ staticW U16 115 Cmp5.yN
def tab : Cond := tabOf yN yB 6 (some (.array .byte)) site
def P (b : Addr) (A : Cell) (o len : Nat) (args : Array Value) (s : State) : Prop := args = #[.ref b, .int (Int32.ofNat o), .int (Int32.ofNat len)] ∧ Ch b A s ∧ o + len ≤ A.slots.size ∧ len ≤ 536870912 ∧ ∀ i, i < len → ¬ 255 < cv A (o + i)
def E (b : Addr) (A : Cell) (o len : Nat) (r : Option Value) (s u : State) : Prop := NewArr .byte "[B" len (fun j => .int (lo8 (cv A (o + j)))) r s u ∧ u.heap.size = s.heap.size + 1
/-- no char of the range above 255: a new byte[] of their low bytes -/
theorem law (l : Launch) (b : Addr) (A : Cell) (o len : Nat) : Law l yN 3 3 1 18 yB 6 (some (.array .byte)) site (P b A o len) (E b A o len) [] 1 len := by
  refine Law.of_walk (plainFor_of_name (by decide +kernel)) (by decide +kernel) (by decide +kernel) (by decide) (fun _ _ h => by rw [h.1]; rfl) (fun _ U U' hal hh h => ⟨h.1, h.2.1.mv hal hh, h.2.2⟩) (fun r U U' V V' h1 hal h2 h => ⟨NewArr.mv r U U' V V' h1 hal h2 h.1, by rw [h1, h2]; exact h.2⟩) ?_
  intro p e s m args below meth c s₁ X0 hexec hbytes hml hret hlk hnm hown hh0 W hP
  obtain ⟨rfl, hA, l1, l2, hp⟩ := hP
  have a31 := hA.1.2.2.2
  have c1 : Steps p.tables e below (s₁.setTop (entryFrame m #[.ref b, .int (Int32.ofNat o), .int (Int32.ofNat len)] 6)) (s₁.setTop (mkF m 0 #[.val (.ref b), .val (.int (Int32.ofNat o)), .val (.int (Int32.ofNat len)), .unset, .unset, .unset] [])) := entry rfl
  have c2 : Steps p.tables e below (s₁.setTop (entryFrame m #[.ref b, .int (Int32.ofNat o), .int (Int32.ofNat len)] 6)) (s₁.setTop (mkF m 1 #[.val (.ref b), .val (.int (Int32.ofNat o)), .val (.int (Int32.ofNat len)), .unset, .unset, .unset] [.int (Int32.ofNat len)])) := c1.trans (by
    refine XS.iloadN X0.here hexec rfl (hb hbytes d0) rfl ?_
    exact Steps.refl _)
  obtain ⟨T3, B3, X3, ba3, bs3, bv3, bh3, bf3, st3⟩ := X0.anew hexec (atype := .byte) (wk W (.arrayClass .byte)) rfl (by show len * 1 ≤ _; omega) (by omega) (g := (mkF m 1 #[.val (.ref b), .val (.int (Int32.ofNat o)), .val (.int (Int32.ofNat len)), .unset, .unset, .unset] [.int (Int32.ofNat len)])) rfl (hb hbytes d1) (rest := []) rfl (Nat.le_refl _) (by show 0 + len ≤ len; omega)
  rw [hh0] at ba3 st3
  have kp3 : XT.Kept s T3 := (XT.Kept.of_eq hh0).push bh3
  have hA3 := hA.keep X3.warmed.alike (kp3 _ _ hA.1.1)
  have hne : b ≠ s.heap.size := hA.1.ne
  have c4 : Steps p.tables e below (s₁.setTop (entryFrame m #[.ref b, .int (Int32.ofNat o), .int (Int32.ofNat len)] 6)) (T3.setTop (mkF m 3 #[.val (.ref b), .val (.int (Int32.ofNat o)), .val (.int (Int32.ofNat len)), .unset, .unset, .unset] [.ref s.heap.size])) := c2.trans (st3 _ (Steps.refl _))
  have c5 : Steps p.tables e below (s₁.setTop (entryFrame m #[.ref b, .int (Int32.ofNat o), .int (Int32.ofNat len)] 6)) (T3.setTop (mkF m 9 #[.val (.ref b), .val (.int (Int32.ofNat o)), .val (.int (Int32.ofNat len)), .val (.ref s.heap.size), .unset, .unset] [.int (Int32.ofNat len), .int 0, .ref s.heap.size, .int (Int32.ofNat o), .ref b])) := c4.trans (by
    refine XS.astoreN X3.here hexec rfl (hb hbytes d3) rfl rfl rfl ?_
    refine XS.aloadN X3.here hexec rfl (hb hbytes d4) rfl rfl ?_
    refine XS.iloadN X3.here hexec rfl (hb hbytes d5) rfl ?_
    refine XS.aloadN X3.here hexec rfl (hb hbytes d6) rfl rfl ?_
    refine iconstV X3.here hexec rfl 0 (hb hbytes d7) (by decide) ?_
    refine XS.iloadN X3.here hexec rfl (hb hbytes d8) rfl ?_
    exact Steps.refl _)
  obtain ⟨v6, T6, X6, E6, g6⟩ := X3.callS hexec (Cmp5.law l b A s.heap.size B3 o 0 len) hown (wks W (staticW U16 115 Cmp5.yN)) (wk W Cmp5.tab) (W := 0) (Nat.le_of_ble_eq_true rfl) (Nat.le_of_ble_eq_true rfl) (Nat.le_refl _) (by show 0 + len + 0 ≤ len; omega) (g := (mkF m 9 #[.val (.ref b), .val (.int (Int32.ofNat o)), .val (.int (Int32.ofNat len)), .val (.ref s.heap.size), .unset, .unset] [.int (Int32.ofNat len), .int (Int32.ofNat 0), .ref s.heap.size, .int (Int32.ofNat o), .ref b])) rfl (by rw [hml]; rfl) c5 (argsL := [.ref b, .int (Int32.ofNat o), .ref s.heap.size, .int (Int32.ofNat 0), .int (Int32.ofNat len)]) (rest := []) rfl rfl (by show 2 * 0 + 0 ≤ _; decide) (hb hbytes d9) (⟨rfl, hA3, ba3, hne, l1, by rw [bs3]; simp, hp⟩)
  obtain ⟨rfl, B6, p6, f6⟩ := E6
  have c7 : Steps p.tables e below (s₁.setTop (entryFrame m #[.ref b, .int (Int32.ofNat o), .int (Int32.ofNat len)] 6)) (T6.setTop (mkF m 12 #[.val (.ref b), .val (.int (Int32.ofNat o)), .val (.int (Int32.ofNat len)), .val (.ref s.heap.size), .unset, .unset] [.int (Int32.ofNat len)])) := g6
  have c8 : Steps p.tables e below (s₁.setTop (entryFrame m #[.ref b, .int (Int32.ofNat o), .int (Int32.ofNat len)] 6)) (T6.setTop (mkF m 58 #[.val (.ref b), .val (.int (Int32.ofNat o)), .val (.int (Int32.ofNat len)), .val (.ref s.heap.size), .val (.int (Int32.ofNat len)), .unset] [.ref s.heap.size])) := c7.trans (by
    refine XS.istore X6.here hexec rfl (hb hbytes d12) rfl rfl ?_
    refine XS.iload X6.here hexec rfl (hb hbytes d14) rfl ?_
    refine XS.iloadN X6.here hexec rfl (hb hbytes d16) rfl ?_
    refine XS.icmpYes X6.here hexec rfl (pc0 := 17) rfl (hb hbytes d17) rfl (ii_eq_t rfl) (by decide) rfl ?_
    refine XS.aloadN X6.here hexec rfl (hb hbytes d57) rfl rfl ?_
    exact Steps.refl _)
  have X8 := X6.wide (L' := []) (cells' := 1) (slots' := len) (fun x hx hlt => by
    simp only [List.nil_append, copyLocs, List.mem_map, List.mem_range] at hx
    obtain ⟨i, -, rfl⟩ := hx
    exact absurd hlt (Nat.lt_irrefl _)) (Nat.le_refl _) (by omega)
  exact ⟨T6, some (.ref s.heap.size), _, _, _, X8, rfl, rfl, rfl, (fun h => by cases h), ⟨⟨rfl, B6, ba3.like (X3.warmed.alike.symm.trans X6.warmed.alike) p6.1 f6.1 f6.2.1 f6.2.2.1, f6.2.1.trans bv3, by rw [X6.warmed.alike.findClass, f6.1]; exact bf3, by rw [f6.2.2.1, bs3]; simp, fun j hj => by rw [f6.2.2.2 j, if_pos (by omega)]; rfl, kp3.put p6 (Nat.le_refl _)⟩, by rw [p6.2.2, bh3, hh0]; simp⟩, fun fs hl => c8.trans (X8.areturnOut hexec rfl hret rfl (hb hbytes d58) hl)⟩
end Cmp3
namespace CodL
def yN : MethodName := ⟨"java/lang/StringUTF16", "coderFromArrayLen", "([BI)B"⟩
abbrev yB : ByteArray := jdk_52_method_15_code
theorem d0 : decode yB 0 = .ok (.iload_n 1, 1) := by decide +kernel
theorem d1 : decode yB 1 = .ok (.aload_n 0, 1) := by decide +kernel
theorem d2 : decode yB 2 = .ok (.arraylength, 1) := by decide +kernel
theorem d3 : decode yB 3 = .ok (.isub, 1) := by decide +kernel
theorem d4 : decode yB 4 = .ok (.bipush 31, 2) := by decide +kernel
theorem d6 : decode yB 6 = .ok (.iushr, 1) := by decide +kernel
theorem d7 : decode yB 7 = .ok (.i2b, 1) := by decide +kernel
theorem d8 : decode yB 8 = .ok (.ireturn, 1) := by decide +kernel
def site : List Cond := []
def tab : Cond := tabOf yN yB 2 (some .byte) site
def P (d : Addr) (B : Cell) (args : Array Value) (s : State) : Prop := args = #[.ref d, .int (Int32.ofNat B.slots.size)] ∧ Arr .byte d B s
def E (r : Option Value) (s u : State) : Prop := XT.PureE (some (.int 0)) r s u
/-- an array as long as the number of chars: LATIN1 -/
theorem law (l : Launch) (d : Addr) (B : Cell) : Law l yN 2 2 0 0 yB 2 (some .byte) site (P d B) E [] 0 0 := by
  refine Law.of_walk (plainFor_of_name (by decide +kernel)) (by decide +kernel) (by decide +kernel) (by decide) (fun _ _ h => by rw [h.1]; rfl) (fun _ U U' hal hh h => ⟨h.1, h.2.mv hal hh⟩) (fun r U U' V V' h1 hal h2 h => XT.PureE.mv r U U' V V' h1 hal h2 h) ?_
  intro p e s m args below meth c s₁ X0 hexec hbytes hml hret hlk hnm hown hh0 W hP
  obtain ⟨rfl, hB⟩ := hP
  have hB0 := hB.mv X0.warmed.alike hh0
  have c1 : Steps p.tables e below (s₁.setTop (entryFrame m #[.ref d, .int (Int32.ofNat B.slots.size)] 2)) (s₁.setTop (mkF m 0 #[.val (.ref d), .val (.int (Int32.ofNat B.slots.size))] [])) := entry rfl
  have c2 : Steps p.tables e below (s₁.setTop (entryFrame m #[.ref d, .int (Int32.ofNat B.slots.size)] 2)) (s₁.setTop (mkF m 2 #[.val (.ref d), .val (.int (Int32.ofNat B.slots.size))] [.ref d, .int (Int32.ofNat B.slots.size)])) := c1.trans (by
    refine XS.iloadN X0.here hexec rfl (hb hbytes d0) rfl ?_
    refine XS.aloadN X0.here hexec rfl (hb hbytes d1) rfl rfl ?_
    exact Steps.refl _)
  have c3 : Steps p.tables e below (s₁.setTop (entryFrame m #[.ref d, .int (Int32.ofNat B.slots.size)] 2)) (s₁.setTop (mkF m 8 #[.val (.ref d), .val (.int (Int32.ofNat B.slots.size))] [.int (lo8 (ushr (Int32.ofNat B.slots.size - Int32.ofNat B.slots.size) 31))])) := c2.trans (by
    refine X0.alen hexec hB0 rfl rfl (hb hbytes d2) ?_
    refine XS.isub X0.here hexec rfl (hb hbytes d3) rfl ?_
    refine bipushV X0.here hexec rfl 31 (hb hbytes d4) (by decide) ?_
    refine iushr X0.here hexec rfl (hb hbytes d6) rfl ?_
    refine i2b X0.here hexec rfl (hb hbytes d7) rfl ?_
    exact Steps.refl _)
  have e0 : lo8 (ushr (Int32.ofNat B.slots.size - Int32.ofNat B.slots.size) 31) = 0 := by rw [Int32.sub_self]; decide
  rw [e0] at c3
  exact ⟨s₁, some (.int 0), _, _, _, X0, rfl, rfl, rfl, (fun h => by cases h), ⟨rfl, hh0⟩, fun fs hl => c3.trans (X0.ireturnOut hexec hret rfl (Or.inr (Or.inr (Or.inl rfl))) (hb hbytes d8) hl)⟩
end CodL
/-- the String at a is Latin-1 over a new byte[] (the heap's one new cell): the low bytes of the len chars of A from o on; every cell but a is kept -/
def Got (a : Addr) (D : Cell) (fV fC : Field) (A : Cell) (o len : Nat) (r : Option Value) (s u : State) : Prop := r = none ∧ ∃ D' V : Cell, Blank "java/lang/String" a D' u ∧ Same D D' [fV.slot, fC.slot] ∧ D'.slots[fV.slot]? = some (.ref s.heap.size) ∧ D'.slots[fC.slot]? = some (.int 0) ∧ Arr .byte s.heap.size V u ∧ V.vm = .none ∧ u.vm.findClass "[B" = some V.cls ∧ V.slots.size = len ∧ (∀ j, j < len → V.slots[j]? = some (.int (lo8 (cv A (o + j))))) ∧ (∀ (y : Addr) (c : Cell), y ≠ a → s.heap[y]? = some c → u.heap[y]? = some c) ∧ u.heap.size = s.heap.size + 1
theorem Got.mv {a : Addr} {D A : Cell} {fV fC : Field} {o len : Nat} : ∀ r (U U' V V' : State), U'.heap = U.heap → V.vm.Alike V'.vm → V'.heap = V.heap → Got a D fV fC A o len r U V → Got a D fV fC A o len r U' V' :=
  fun r U U' V V' h1 hal h2 ⟨e0, D', X, a1, a2, a3, a4, a5, a6, a7, a8, a9, a10, a11⟩ => ⟨e0, D', X, a1.mv hal h2, a2, by rw [h1]; exact a3, a4, by rw [h1]; exact a5.mv hal h2, a6, by rw [hal.findClass]; exact a7, a8, a9, by rw [h1, h2]; exact a10, by rw [h1, h2]; exact a11⟩
namespace New4
def yN : MethodName := ⟨"java/lang/String", "<init>", "([CIILjava/lang/Void;)V"⟩
abbrev yB : ByteArray := jdk_42_method_149_code
theorem d0 : decode yB 0 = .ok (.aload_n 0, 1) := by decide +kernel
theorem d1 : decode yB 1 = .ok (.invokespecial 1, 3) := by decide +kernel
theorem d4 : decode yB 4 = .ok (.iload_n 3, 1) := by decide +kernel
theorem d5 : decode yB 5 = .ok (.ifCond (.ne) 22, 3) := by decide +kernel
theorem d27 : decode yB 27 = .ok (.getstatic 38, 3) := by decide +kernel
theorem d30 : decode yB 30 = .ok (.ifCond (.eq) 28, 3) := by decide +kernel
theorem d33 : decode yB 33 = .ok (.aload_n 1, 1) := by decide +kernel
theorem d34 : decode yB 34 = .ok (.iload_n 2, 1) := by decide +kernel
theorem d35 : decode yB 35 = .ok (.iload_n 3, 1) := by decide +kernel
theorem d36 : decode yB 36 = .ok (.invokestatic 177, 3) := by decide +kernel
theorem d39 : decode yB 39 = .ok (.astore 5, 2) := by decide +kernel
theorem d41 : decode yB 41 = .ok (.aload_n 0, 1) := by decide +kernel
theorem d42 : decode yB 42 = .ok (.aload 5, 2) := by decide +kernel
theorem d44 : decode yB 44 = .ok (.iload_n 3, 1) := by decide +kernel
theorem d45 : decode yB 45 = .ok (.invokestatic 47, 3) := by decide +kernel
theorem d48 : decode yB 48 = .ok (.putfield 15, 3) := by decide +kernel
theorem d51 : decode yB 51 = .ok (.aload_n 0, 1) := by decide +kernel
theorem d52 : decode yB 52 = .ok (.aload 5, 2) := by decide +kernel
theorem d54 : decode yB 54 = .ok (.putfield 9, 3) := by decide +kernel
theorem d57 : decode yB 57 = .ok (.return_, 1) := by decide +kernel
def site : List Cond := [.fieldLink "java/lang/String" 38 "java/lang/String" "COMPACT_STRINGS" "Z", Cmp3.tab, CodL.tab, .laysFinal "java/lang/String" "java/lang/String" "value" "[B", .fieldLink "java/lang/String" 9 "java/lang/String" "value" "[B", .laysFinal "java/lang/String" "java/lang/String" "coder" "B", .fieldLink "java/lang/String" 15 "java/lang/String" "coder" "B"] ++ objW "java/lang/String" 1 ++ staticW "java/lang/String" 177 Cmp3.yN ++ staticW "java/lang/String" 47 CodL.yN
def tab : Cond := tabOf yN yB 6 none site
def P (a : Addr) (D : Cell) (fV fC : Field) (b : Addr) (A : Cell) (z : Int32) (o len : Nat) (args : Array Value) (s : State) : Prop := args = #[.ref a, .ref b, .int (Int32.ofNat o), .int (Int32.ofNat len), .null] ∧ Blank "java/lang/String" a D s ∧ Found "java/lang/String" "value" "[B" fV s ∧ Found "java/lang/String" "coder" "B" fC s ∧ Ch b A s ∧ StaticIs s "java/lang/String" "COMPACT_STRINGS" "Z" (.int z) ∧ ¬ z = 0 ∧ 0 < len ∧ o + len ≤ A.slots.size ∧ len ≤ 536870912 ∧ ∀ i, i < len → ¬ 255 < cv A (o + i)
def E (a : Addr) (D : Cell) (fV fC : Field) (A : Cell) (o len : Nat) (r : Option Value) (s u : State) : Prop := Got a D fV fC A o len r s u
/-- len > 0, no char of the range above 255: a Latin-1 String of their low bytes -/
theorem law (l : Launch) (a : Addr) (D : Cell) (fV fC : Field) (b : Addr) (A : Cell) (z : Int32) (o len : Nat) : Law l yN 5 4 2 35 yB 6 none site (P a D fV fC b A z o len) (E a D fV fC A o len) [⟨a, fC.slot⟩, ⟨a, fV.slot⟩] 1 len := by
  refine Law.of_walk (plainFor_of_name (by decide +kernel)) (by decide +kernel) (by decide +kernel) (by decide) (fun _ _ h => by rw [h.1]; rfl) (fun _ U U' hal hh h => ⟨h.1, h.2.1.mv hal hh, h.2.2.1.al hal, h.2.2.2.1.al hal, h.2.2.2.2.1.mv hal hh, h.2.2.2.2.2.1.there hal hh, h.2.2.2.2.2.2⟩) (fun r U U' V V' h1 hal h2 h => Got.mv r U U' V V' h1 hal h2 h) ?_
  intro p e s m args below meth c s₁ X0 hexec hbytes hml hret hlk hnm hown hh0 W hP
  obtain ⟨rfl, hB, f1, f2, hA, s1, hz, l0, l1, l2, hp⟩ := hP
  have a31 := hA.1.2.2.2
  have c1 : Steps p.tables e below (s₁.setTop (entryFrame m #[.ref a, .ref b, .int (Int32.ofNat o), .int (Int32.ofNat len), .null] 6)) (s₁.setTop (mkF m 0 #[.val (.ref a), .val (.ref b), .val (.int (Int32.ofNat o)), .val (.int (Int32.ofNat len)), .val .null, .unset] [])) := entry rfl
  have c2 : Steps p.tables e below (s₁.setTop (entryFrame m #[.ref a, .ref b, .int (Int32.ofNat o), .int (Int32.ofNat len), .null] 6)) (s₁.setTop (mkF m 1 #[.val (.ref a), .val (.ref b), .val (.int (Int32.ofNat o)), .val (.int (Int32.ofNat len)), .val .null, .unset] [.ref a])) := c1.trans (by
    refine XS.aloadN X0.here hexec rfl (hb hbytes d0) rfl rfl ?_
    exact Steps.refl _)
  obtain ⟨T3, X3, q3, st3⟩ := X0.oinit hexec hown (wks W (objW "java/lang/String" 1)) (g := (mkF m 1 #[.val (.ref a), .val (.ref b), .val (.int (Int32.ofNat o)), .val (.int (Int32.ofNat len)), .val .null, .unset] [.ref a])) rfl (by rw [hml]; rfl) (rest := []) rfl (hb hbytes d1) (W := 0) (by show 2 * 0 + 0 ≤ _; decide) (Nat.le_of_ble_eq_true rfl) (Nat.le_of_ble_eq_true rfl)
  have hh3 := q3.trans hh0
  have c4 : Steps p.tables e below (s₁.setTop (entryFrame m #[.ref a, .ref b, .int (Int32.ofNat o), .int (Int32.ofNat len), .null] 6)) (T3.setTop (mkF m 27 #[.val (.ref a), .val (.ref b), .val (.int (Int32.ofNat o)), .val (.int (Int32.ofNat len)), .val .null, .unset] [])) := (c2.trans (st3 _ (Steps.refl _))).trans (by
    refine XS.iloadN X3.here hexec rfl (hb hbytes d4) rfl ?_
    refine XS.ifYes X3.here hexec rfl (pc0 := 5) rfl (hb hbytes d5) rfl (i0_ne_t (nz32 (by omega) l0)) (by decide) rfl ?_
    exact Steps.refl _)
  obtain ⟨T5, X5, q5, st5⟩ := X3.sget hexec hown (wk W (.fieldLink "java/lang/String" 38 "java/lang/String" "COMPACT_STRINGS" "Z")) s1 (fun _ _ h => by rw [hh3]; exact h) (g := (mkF m 27 #[.val (.ref a), .val (.ref b), .val (.int (Int32.ofNat o)), .val (.int (Int32.ofNat len)), .val .null, .unset] [])) rfl (hb hbytes d27)
  have hh5 := q5.trans hh3
  have c6 : Steps p.tables e below (s₁.setTop (entryFrame m #[.ref a, .ref b, .int (Int32.ofNat o), .int (Int32.ofNat len), .null] 6)) (T5.setTop (mkF m 30 #[.val (.ref a), .val (.ref b), .val (.int (Int32.ofNat o)), .val (.int (Int32.ofNat len)), .val .null, .unset] [.int z])) := c4.trans (st5 _ (Steps.refl _))
  have c7 : Steps p.tables e below (s₁.setTop (entryFrame m #[.ref a, .ref b, .int (Int32.ofNat o), .int (Int32.ofNat len), .null] 6)) (T5.setTop (mkF m 36 #[.val (.ref a), .val (.ref b), .val (.int (Int32.ofNat o)), .val (.int (Int32.ofNat len)), .val .null, .unset] [.int (Int32.ofNat len), .int (Int32.ofNat o), .ref b])) := c6.trans (by
    refine XS.ifNo X5.here hexec rfl (hb hbytes d30) rfl (i0_eq_f hz) ?_
    refine XS.aloadN X5.here hexec rfl (hb hbytes d33) rfl rfl ?_
    refine XS.iloadN X5.here hexec rfl (hb hbytes d34) rfl ?_
    refine XS.iloadN X5.here hexec rfl (hb hbytes d35) rfl ?_
    exact Steps.refl _)
  obtain ⟨v8, T8, X8, E8, g8⟩ := X5.callS hexec (Cmp3.law l b A o len) hown (wks W (staticW "java/lang/String" 177 Cmp3.yN)) (wk W Cmp3.tab) (W := 0) (Nat.le_of_ble_eq_true rfl) (Nat.le_of_ble_eq_true rfl) (Nat.le_refl _) (by show 0 + len ≤ len; omega) (g := (mkF m 36 #[.val (.ref a), .val (.ref b), .val (.int (Int32.ofNat o)), .val (.int (Int32.ofNat len)), .val .null, .unset] [.int (Int32.ofNat len), .int (Int32.ofNat o), .ref b])) rfl (by rw [hml]; rfl) c7 (argsL := [.ref b, .int (Int32.ofNat o), .int (Int32.ofNat len)]) (rest := []) rfl rfl (by show 2 * 0 + 0 ≤ _; decide) (hb hbytes d36) (⟨rfl, hA.mv X5.warmed.alike hh5, l1, l2, hp⟩)
  obtain ⟨e8, z8⟩ := E8
  obtain ⟨rfl, N, n1, n2, n3, n4, n5, n6⟩ := NewArr.mv _ T5 s _ _ hh5.symm (Vm.Alike.refl _) rfl e8
  rw [hh5] at z8
  have hB1 := hB.keep X8.warmed.alike (n6 _ _ hB.1)
  have hne : s.heap.size ≠ a := (Nat.ne_of_lt (Array.getElem?_eq_some_iff.mp hB.1).1).symm
  have c9 : Steps p.tables e below (s₁.setTop (entryFrame m #[.ref a, .ref b, .int (Int32.ofNat o), .int (Int32.ofNat len), .null] 6)) (T8.setTop (mkF m 39 #[.val (.ref a), .val (.ref b), .val (.int (Int32.ofNat o)), .val (.int (Int32.ofNat len)), .val .null, .unset] [.ref s.heap.size])) := g8
  have c10 : Steps p.tables e below (s₁.setTop (entryFrame m #[.ref a, .ref b, .int (Int32.ofNat o), .int (Int32.ofNat len), .null] 6)) (T8.setTop (mkF m 45 #[.val (.ref a), .val (.ref b), .val (.int (Int32.ofNat o)), .val (.int (Int32.ofNat len)), .val .null, .val (.ref s.heap.size)] [.int (Int32.ofNat N.slots.size), .ref s.heap.size, .ref a])) := by
    have hc : Steps p.tables e below (s₁.setTop (entryFrame m #[.ref a, .ref b, .int (Int32.ofNat o), .int (Int32.ofNat len), .null] 6)) (T8.setTop (mkF m 45 #[.val (.ref a), .val (.ref b), .val (.int (Int32.ofNat o)), .val (.int (Int32.ofNat len)), .val .null, .val (.ref s.heap.size)] [.int (Int32.ofNat len), .ref s.heap.size, .ref a])) := c9.trans (by
      refine XS.astore X8.here hexec rfl (hb hbytes d39) rfl rfl rfl ?_
      refine XS.aloadN X8.here hexec rfl (hb hbytes d41) rfl rfl ?_
      refine XS.aload X8.here hexec rfl (hb hbytes d42) rfl rfl ?_
      refine XS.iloadN X8.here hexec rfl (hb hbytes d44) rfl ?_
      exact Steps.refl _)
    rw [n4]; exact hc
  obtain ⟨v11, T11, X11, E11, g11⟩ := X8.callS hexec (CodL.law l s.heap.size N) hown (wks W (staticW "java/lang/String" 47 CodL.yN)) (wk W CodL.tab) (W := 1) (Nat.le_of_ble_eq_true rfl) (Nat.le_of_ble_eq_true rfl) (Nat.le_refl _) (by show 0 + len + 0 ≤ len; omega) (g := (mkF m 45 #[.val (.ref a), .val (.ref b), .val (.int (Int32.ofNat o)), .val (.int (Int32.ofNat len)), .val .null, .val (.ref s.heap.size)] [.int (Int32.ofNat N.slots.size), .ref s.heap.size, .ref a])) rfl (by rw [hml]; rfl) c10 (argsL := [.ref s.heap.size, .int (Int32.ofNat N.slots.size)]) (rest := [.ref a]) rfl rfl (by show 2 * 0 + (1 + 0) ≤ _; decide) (hb hbytes d45) (⟨rfl, n1⟩)
  obtain ⟨rfl, q11⟩ := E11
  have hB11 := hB1.mv (X8.warmed.alike.symm.trans X11.warmed.alike) q11
  have c12 : Steps p.tables e below (s₁.setTop (entryFrame m #[.ref a, .ref b, .int (Int32.ofNat o), .int (Int32.ofNat len), .null] 6)) (T11.setTop (mkF m 48 #[.val (.ref a), .val (.ref b), .val (.int (Int32.ofNat o)), .val (.int (Int32.ofNat len)), .val .null, .val (.ref s.heap.size)] [.int 0, .ref a])) := g11
  obtain ⟨T13, X13, p13, bl13, sl13, st13⟩ := X11.finit hexec hown (wk W (.fieldLink "java/lang/String" 15 "java/lang/String" "coder" "B")) (Or.inr ⟨_, (wk W (.laysFinal "java/lang/String" "java/lang/String" "coder" "B"))⟩) (Or.inl ⟨rfl, hnm⟩) f2 (Or.inl rfl) hB11 (t := .byte) (by decide +kernel) rfl (g := (mkF m 48 #[.val (.ref a), .val (.ref b), .val (.int (Int32.ofNat o)), .val (.int (Int32.ofNat len)), .val .null, .val (.ref s.heap.size)] [.int 0, .ref a])) rfl (rest := []) rfl (hb hbytes d48)
  have c14 : Steps p.tables e below (s₁.setTop (entryFrame m #[.ref a, .ref b, .int (Int32.ofNat o), .int (Int32.ofNat len), .null] 6)) (T13.setTop (mkF m 54 #[.val (.ref a), .val (.ref b), .val (.int (Int32.ofNat o)), .val (.int (Int32.ofNat len)), .val .null, .val (.ref s.heap.size)] [.ref s.heap.size, .ref a])) := (c12.trans (st13 _ (Steps.refl _))).trans (by
    refine XS.aloadN X13.here hexec rfl (hb hbytes d51) rfl rfl ?_
    refine XS.aload X13.here hexec rfl (hb hbytes d52) rfl rfl ?_
    exact Steps.refl _)
  obtain ⟨T15, X15, p15, bl15, sl15, st15⟩ := X13.finit hexec hown (wk W (.fieldLink "java/lang/String" 9 "java/lang/String" "value" "[B")) (Or.inr ⟨_, (wk W (.laysFinal "java/lang/String" "java/lang/String" "value" "[B"))⟩) (Or.inl ⟨rfl, hnm⟩) f1 (Or.inl rfl) bl13 (t := (.array .byte)) (by decide +kernel) rfl (g := (mkF m 54 #[.val (.ref a), .val (.ref b), .val (.int (Int32.ofNat o)), .val (.int (Int32.ofNat len)), .val .null, .val (.ref s.heap.size)] [.ref s.heap.size, .ref a])) rfl (rest := []) rfl (hb hbytes d54)
  have c16 : Steps p.tables e below (s₁.setTop (entryFrame m #[.ref a, .ref b, .int (Int32.ofNat o), .int (Int32.ofNat len), .null] 6)) (T15.setTop (mkF m 57 #[.val (.ref a), .val (.ref b), .val (.int (Int32.ofNat o)), .val (.int (Int32.ofNat len)), .val .null, .val (.ref s.heap.size)] [])) := c14.trans (st15 _ (Steps.refl _))
  have ap := apart (Or.inr ⟨_, (wk W (.laysFinal "java/lang/String" "java/lang/String" "value" "[B"))⟩) (Or.inr ⟨_, (wk W (.laysFinal "java/lang/String" "java/lang/String" "coder" "B"))⟩) f1 f2 (t₁ := .array .byte) (t₂ := .byte) (by decide +kernel) (by decide +kernel) (by decide)
  have al := X8.warmed.alike.symm.trans X15.warmed.alike
  have n7 : T11.heap[s.heap.size]? = some N := by rw [q11]; exact n1.1
  exact ⟨T15, none, _, _, _, X15, by simp, rfl, by omega, (fun _ => rfl), ⟨rfl, _, N, bl15, ((Same.refl D _).set _ (by simp)).set _ (by simp), sl15, (Cell.slots_setSlot_ne _ ap).trans sl13, n1.keep al (p15.other hne (p13.other hne n7)), n2, by rw [al.findClass]; exact n3, n4, n5, fun y c h1 h2 => p15.other h1 (p13.other h1 (by rw [q11]; exact n6 y c h2)), by rw [p15.2.2, p13.2.2, q11]; exact z8⟩, fun fs hl => c16.trans (X15.returnOut hexec hret (hb hbytes d57) hl)⟩
end New4
namespace New1
def yN : MethodName := ⟨"java/lang/String", "<init>", "([C)V"⟩
abbrev yB : ByteArray := jdk_42_method_3_code
theorem d0 : decode yB 0 = .ok (.aload_n 0, 1) := by decide +kernel
theorem d1 : decode yB 1 = .ok (.aload_n 1, 1) := by decide +kernel
theorem d2 : decode yB 2 = .ok (.iconst 0, 1) := by decide +kernel
theorem d3 : decode yB 3 = .ok (.aload_n 1, 1) := by decide +kernel
theorem d4 : decode yB 4 = .ok (.arraylength, 1) := by decide +kernel
theorem d5 : decode yB 5 = .ok (.aconst_null, 1) := by decide +kernel
theorem d6 : decode yB 6 = .ok (.invokespecial 27, 3) := by decide +kernel
theorem d9 : decode yB 9 = .ok (.return_, 1) := by decide +kernel
def site : List Cond := [New4.tab] ++ initW "java/lang/String" 27 New4.yN
def tab : Cond := tabOf yN yB 2 none site
def P (a : Addr) (D : Cell) (fV fC : Field) (b : Addr) (A : Cell) (z : Int32) (args : Array Value) (s : State) : Prop := args = #[.ref a, .ref b] ∧ Blank "java/lang/String" a D s ∧ Found "java/lang/String" "value" "[B" fV s ∧ Found "java/lang/String" "coder" "B" fC s ∧ Ch b A s ∧ StaticIs s "java/lang/String" "COMPACT_STRINGS" "Z" (.int z) ∧ ¬ z = 0 ∧ 0 < A.slots.size ∧ A.slots.size ≤ 536870912 ∧ ∀ i, i < A.slots.size → ¬ 255 < cv A i
def E (a : Addr) (D : Cell) (fV fC : Field) (A : Cell) (r : Option Value) (s u : State) : Prop := Got a D fV fC A 0 A.slots.size r s u
/-- new String(chars), not empty, no char above 255: a Latin-1 String of their low bytes -/
theorem law (l : Launch) (a : Addr) (D : Cell) (fV fC : Field) (b : Addr) (A : Cell) (z : Int32) : Law l yN 2 1 3 52 yB 2 none site (P a D fV fC b A z) (E a D fV fC A) [⟨a, fC.slot⟩, ⟨a, fV.slot⟩] 1 A.slots.size := by
  refine Law.of_walk (plainFor_of_name (by decide +kernel)) (by decide +kernel) (by decide +kernel) (by decide) (fun _ _ h => by rw [h.1]; rfl) (fun _ U U' hal hh h => ⟨h.1, h.2.1.mv hal hh, h.2.2.1.al hal, h.2.2.2.1.al hal, h.2.2.2.2.1.mv hal hh, h.2.2.2.2.2.1.there hal hh, h.2.2.2.2.2.2⟩) (fun r U U' V V' h1 hal h2 h => Got.mv r U U' V V' h1 hal h2 h) ?_
  intro p e s m args below meth c s₁ X0 hexec hbytes hml hret hlk hnm hown hh0 W hP
  obtain ⟨rfl, hB, f1, f2, hA, s1, hz, l0, l2, hp⟩ := hP
  have c1 : Steps p.tables e below (s₁.setTop (entryFrame m #[.ref a, .ref b] 2)) (s₁.setTop (mkF m 0 #[.val (.ref a), .val (.ref b)] [])) := entry rfl
  have c2 : Steps p.tables e below (s₁.setTop (entryFrame m #[.ref a, .ref b] 2)) (s₁.setTop (mkF m 6 #[.val (.ref a), .val (.ref b)] [.null, .int (Int32.ofNat A.slots.size), .int 0, .ref b, .ref a])) := c1.trans (by
    refine XS.aloadN X0.here hexec rfl (hb hbytes d0) rfl rfl ?_
    refine XS.aloadN X0.here hexec rfl (hb hbytes d1) rfl rfl ?_
    refine iconstV X0.here hexec rfl 0 (hb hbytes d2) (by decide) ?_
    refine XS.aloadN X0.here hexec rfl (hb hbytes d3) rfl rfl ?_
    refine X0.alen hexec (hA.1.mv X0.warmed.alike hh0) rfl rfl (hb hbytes d4) ?_
    refine XS.aconstNull X0.here hexec rfl (hb hbytes d5) ?_
    exact Steps.refl _)
  obtain ⟨v3, T3, X3, E3, g3⟩ := X0.callN hexec (New4.law l a D fV fC b A z 0 A.slots.size) rfl hown (wks W (initW "java/lang/String" 27 New4.yN)) (W New4.tab (by simp only [site, List.mem_cons, List.mem_append, true_or, or_true])) (W := 0) (Nat.le_of_ble_eq_true rfl) (Nat.le_of_ble_eq_true rfl) (Nat.le_refl _) (by show 0 + A.slots.size ≤ A.slots.size; omega) (g := (mkF m 6 #[.val (.ref a), .val (.ref b)] [.null, .int (Int32.ofNat A.slots.size), .int (Int32.ofNat 0), .ref b, .ref a])) rfl (by rw [hml]; rfl) c2 (argsL := [.ref b, .int (Int32.ofNat 0), .int (Int32.ofNat A.slots.size), .null]) (rest := []) rfl rfl (by show 2 * 0 + 0 ≤ _; decide) (hb hbytes d6) (⟨rfl, hB.mv X0.warmed.alike hh0, f1.al X0.warmed.alike, f2.al X0.warmed.alike, hA.mv X0.warmed.alike hh0, s1.there X0.warmed.alike hh0, hz, l0, by omega, l2, fun i hi => by rw [Nat.zero_add]; exact hp i hi⟩)
  have e0 := Got.mv _ s₁ s _ _ hh0.symm (Vm.Alike.refl _) rfl E3
  obtain rfl := e0.1
  have c4 : Steps p.tables e below (s₁.setTop (entryFrame m #[.ref a, .ref b] 2)) (T3.setTop (mkF m 9 #[.val (.ref a), .val (.ref b)] [])) := g3
  exact ⟨T3, none, _, _, _, X3, by simp, rfl, by omega, (fun _ => rfl), e0, fun fs hl => c4.trans (X3.returnOut hexec hret (hb hbytes d9) hl)⟩
theorem pays {l : Launch} {R : Room} {p : Program} {e : Env} {below : List Frame} {s : State} {sargs : Array Value} {len W : Nat} (a : Addr) (D : Cell) (fV fC : Field) (b : Addr) (A : Cell) (z : Int32) (htab : tab.before sargs s = true) (hfr : 4 ≤ R.frames) (hlo : W + 65 ≤ R.locals) :
    Back l R p e below s sargs yN len W (fun A₁ a₁ => A₁.cells + 1 ≤ R.cells ∧ A₁.slots + A.slots.size ≤ R.slots ∧ P a D fV fC b A z a₁ A₁.U) (fun A₁ _ v₁ B₁ => E a D fV fC A v₁ A₁.U B₁.U ∧ B₁.locs = A₁.locs ++ [⟨a, fC.slot⟩, ⟨a, fV.slot⟩] ∧ B₁.cells = A₁.cells + 1 ∧ B₁.slots = A₁.slots + A.slots.size) :=
  (law l a D fV fC b A z).pays htab hfr (by omega)
end New1
end StrChars
namespace StrChars.Road
open Jvm Sem ClassFile Op Lib Jvm.Stand Jvm.Free Jvm.Free.XT
open Jvm.Lib.Cold (StaticIs)
abbrev ST : String := "java/lang/String"
/-- every table word that New1's law asks, flat -/
abbrev words : List Jvm.Cond := [.code New1.yN New1.yB 2 none, .initialized ST, .methodLink ST 27 New4.yN, .instanceMethod New4.yN,
  .code New4.yN New4.yB 6 none, .fieldLink ST 38 ST "COMPACT_STRINGS" "Z", .laysFinal ST ST "value" "[B", .fieldLink ST 9 ST "value" "[B", .laysFinal ST ST "coder" "B", .fieldLink ST 15 ST "coder" "B",
  .methodLink ST 1 Lib.objectInit, .instanceMethod Lib.objectInit, .code Lib.objectInit ⟨#[0xb1]⟩ 1 none, .methodLink ST 177 Cmp3.yN, .static Cmp3.yN, .methodLink ST 47 CodL.yN, .static CodL.yN,
  .code Cmp3.yN Cmp3.yB 6 (some (.array .byte)), .initialized U16, .arrayClass .byte, .methodLink U16 115 Cmp5.yN, .static Cmp5.yN, .code Cmp5.yN Cmp5.yB 7 (some .int), .code CodL.yN CodL.yB 2 (some .byte)]
theorem tab_of {a : Array Value} {s : State} (h : ∀ w ∈ words, w.before a s = true) : New1.tab.before a s = true := by
  have h5 : Cmp5.tab.before a s = true := unparts (wk h (.code Cmp5.yN Cmp5.yB 7 (some .int))) (wks h (.initialized Cmp5.yN.cls :: Cmp5.site))
  have hc : CodL.tab.before a s = true := unparts (wk h (.code CodL.yN CodL.yB 2 (some .byte))) (wks h (.initialized CodL.yN.cls :: CodL.site))
  have q5 : ∀ w ∈ Cmp5.tab :: words, w.before a s = true := fun w hw => (List.mem_cons.mp hw).elim (fun e => e ▸ h5) (h w)
  have h3 : Cmp3.tab.before a s = true := unparts (wk q5 (.code Cmp3.yN Cmp3.yB 6 (some (.array .byte)))) (wks q5 (.initialized Cmp3.yN.cls :: Cmp3.site))
  have q3 : ∀ w ∈ Cmp3.tab :: CodL.tab :: words, w.before a s = true := fun w hw => (List.mem_cons.mp hw).elim (fun e => e ▸ h3) fun hw => (List.mem_cons.mp hw).elim (fun e => e ▸ hc) (h w)
  have h4 : New4.tab.before a s = true := unparts (wk q3 (.code New4.yN New4.yB 6 none)) (wks q3 (.initialized New4.yN.cls :: New4.site))
  have q4 : ∀ w ∈ New4.tab :: words, w.before a s = true := fun w hw => (List.mem_cons.mp hw).elim (fun e => e ▸ h4) (h w)
  exact unparts (wk q4 (.code New1.yN New1.yB 2 none)) (wks q4 (.initialized New1.yN.cls :: New1.site))
/-- the words ride from the start Z to the walk's own state -/
theorem moved {Z s : State} {a0 args : Array Value} (hZ : Z.Warmed39 s.vm) (hw : ∀ d ∈ words, d.before a0 Z = true) : ∀ d ∈ words, d.before args s = true := fun d hd => by
  have q := hw d hd
  have t : ∀ d ∈ words, d = .arrayClass .byte ∨ (d.onTables && d.keepsFace) = true := by decide +kernel
  rcases t d hd with rfl | t
  · exact RoadKit.mvA hZ q
  · exact RoadKit.mv hZ q t
/-- WHAT COMES BACK, over the tables of the start Z: h the heap at the call, h' behind it -/
def Q (Z : State) (x : Addr) (A : Cell) (h : Heap) (v : Option Value) (h' : Heap) (L : List Loc) : Prop := v = none ∧ (∀ y ∈ L, y.base = x) ∧ RoadKit.Keep h h' [x] ∧ h'.size = h.size + 1 ∧ RoadKit.Exa Z h' x ST ∧ RoadKit.Fld Z h' x ST "value" "[B" (.ref h.size) ∧ RoadKit.Fld Z h' x ST "coder" "B" (.int 0) ∧
  (∃ V : Cell, RoadKit.Arr Z h' h.size V .byte ∧ V.vm = .none ∧ Z.vm.findClass "[B" = some V.cls ∧ V.slots.size = A.slots.size ∧ ∀ j, j < A.slots.size → V.slots[j]? = some (.int (lo8 (cv A j)))) ∧
  ∀ (O n d : String) (w : Value), RoadKit.Fld Z h x O n d w → RoadKit.slotOf Z O n d ≠ RoadKit.slotOf Z ST "value" "[B" → RoadKit.slotOf Z O n d ≠ RoadKit.slotOf Z ST "coder" "B" → RoadKit.Fld Z h' x O n d w
/-- **new String(chars) AT A CALL, IN THE ROAD'S FORM**: for specialBack behind newO: x the fresh String, b the char[] with the cell A -/
theorem back {p : Program} {l : Launch} {e : Env} {R : Room} {s : State} {args : Array Value} {below : List Frame} {len W : Nat} {Z : State} {a0 : Array Value} {h : Heap} (hZ : Z.Warmed39 s.vm) (hw : ∀ d ∈ words, d.before a0 Z = true) {kI : Nat} (wi : (Jvm.Cond.instantiable ST kI).before a0 Z = true)
    {x b : Addr} {A : Cell} {z : Int32} {v0 c0 : Value} (E : RoadKit.Exa Z h x ST) (V : RoadKit.Fld Z h x ST "value" "[B" v0) (C : RoadKit.Fld Z h x ST "coder" "B" c0) (K : RoadKit.Arr Z h b A .char) (hty : Typed .char A) (S : RoadKit.Sta Z h ST "COMPACT_STRINGS" "Z" (.int z)) (hz : ¬ z = 0)
    (l0 : 0 < A.slots.size) (l2 : A.slots.size ≤ 536870912) (hp : ∀ i, i < A.slots.size → ¬ 255 < cv A i) (hfr : 4 ≤ R.frames) (hlo : W + 65 ≤ R.locals) :
    Back l R p e below s args New1.yN len W (fun P a => a = #[.ref x, .ref b] ∧ P.U.heap = h ∧ P.cells + 1 ≤ R.cells ∧ P.slots + A.slots.size ≤ R.slots)
      (fun P _ v B => ∃ L, Q Z x A h v B.U.heap L ∧ B.locs = P.locs ++ L ∧ B.cells = P.cells + 1 ∧ B.slots = P.slots + A.slots.size) := by
  intro m meth c P g ig mk a X hg hsize hdg hW hn hp'
  obtain ⟨rfl, rfl, r1, r2⟩ := hp'
  have al : Z.vm.Alike P.U.vm := hZ.alike.trans X.warmed.alike
  obtain ⟨D, cfV, kV, iV, fV, hD, gV, stV, knV, obV, asV, slV⟩ := id V
  obtain ⟨D', cfC, kC, iC, fC, hD', gC, stC, -, -, asC, slC⟩ := id C
  cases hD.symm.trans hD'
  obtain ⟨D2, kD, e1, e2, e3, e4, e5⟩ := id E
  cases hD.symm.trans e1
  obtain ⟨c2, k2, i1, i2, i3, -⟩ := Cond.instantiable_spec wi
  cases e2.symm.trans i1
  cases e3.symm.trans i2
  obtain ⟨kU, u1, u2⟩ := al.2.2 _ _ e3
  have hB : Blank ST x D P.U := ⟨hD, ⟨knV, fun q hq => by rw [hq] at obV; cases obV⟩, by rw [al.findClass]; exact e2, kU, u1, by rw [u2]; exact i3, by rw [u2]; exact e5 i3⟩
  have F1 : Found ST "value" "[B" fV P.U := ⟨SBG.found_only al ⟨cfV, kV, iV, gV⟩, stV⟩
  have F2 : Found ST "coder" "B" fC P.U := ⟨SBG.found_only al ⟨cfC, kC, iC, gC⟩, stC⟩
  have hA : Ch b A P.U := ⟨⟨K.1, State.isArrayOf_alike al K.2.1, K.2.2, by omega⟩, hty⟩
  have hS : StaticIs P.U ST "COMPACT_STRINGS" "Z" (.int z) := by
    obtain ⟨cfS, iS, kS, fS, st, cS, t1, t2, t3, t4, t5, t6, t7⟩ := S
    exact StaticIs.there (s := { Z with heap := P.U.heap }) ⟨cfS, iS, kS, fS, st, cS, t1, t2, t3, t4, t5, (fun q => by rw [q] at t6; cases t6), t7⟩ al rfl
  obtain ⟨v, B, X', ⟨⟨hv, E', V', q1, q2, q3, q4, q5, q6, q7, q8, q9, q10, q11⟩, hl, hc, hs⟩, st⟩ := New1.pays x D fV fC b A z (tab_of (moved hZ hw)) hfr hlo m meth c P g ig mk _ X hg hsize hdg hW hn ⟨r1, r2, rfl, hB, F1, F2, hA, hS, hz, l0, l2, hp⟩
  have al' : Z.vm.Alike B.U.vm := hZ.alike.trans X'.warmed.alike
  have hsz : E'.slots.size = D.slots.size := by
    obtain ⟨-, -, -, kB, w1, w2, w3⟩ := q1
    obtain ⟨kB', y1, y2⟩ := al'.2.2 _ _ e3
    rw [q2.2.1] at w1
    cases w1.symm.trans y1
    rw [w3, e5 i3, y2]
  refine ⟨v, B, X', ⟨_, ⟨hv, ?_, ⟨by omega, fun y cy hy hn' => q10 y cy (by simpa using hn') hy, fun y cy hy => ?_⟩, q11, ⟨E', _, q1.1, by rw [q2.2.1]; exact e2, by rw [q2.2.1]; exact e3, by rw [q2.1]; exact obV, fun _ => by rw [hsz]; exact e5 i3⟩,
    ⟨E', cfV, kV, iV, fV, q1.1, gV, stV, by rw [q2.1]; exact knV, by rw [q2.1]; exact obV, by rw [q2.2.1]; exact asV, q3⟩, ⟨E', cfC, kC, iC, fC, q1.1, gC, stC, by rw [q2.1]; exact knV, by rw [q2.1]; exact obV, by rw [q2.2.1]; exact asC, q4⟩,
    ⟨V', ⟨q5.1, State.isArrayOf_alike al'.symm q5.2.1, q5.2.2.1⟩, q6, by rw [← al'.findClass]; exact q7, q8, fun j hj => by have := q9 j hj; rwa [Nat.zero_add] at this⟩, fun O n d w F n1 n2 => ?_⟩, hl, hc, hs⟩, st⟩
  · intro y hy
    simp only [List.mem_cons, List.not_mem_nil, or_false] at hy
    rcases hy with rfl | rfl <;> rfl
  · by_cases q : y = x
    · subst q
      cases hD.symm.trans hy
      exact ⟨E', q1.1, q2.2.1, q2.1, hsz⟩
    · exact ⟨cy, q10 y cy q hy, rfl, rfl, rfl⟩
  · obtain ⟨D3, cf, k, i, f, g1, g2, g3, g4, g5, g6, g7⟩ := F
    cases hD.symm.trans g1
    simp only [RoadKit.slotOf, g2, gV, gC, Option.map_some, Option.getD_some] at n1 n2
    exact ⟨E', cf, k, i, f, q1.1, g2, g3, by rw [q2.1]; exact g4, by rw [q2.1]; exact g5, by rw [q2.2.1]; exact g6, by rw [q2.2.2 f.slot (by simp [n1, n2])]; exact g7⟩
end StrChars.Road
namespace StrChars.Road
open Jvm Sem ClassFile Op Lib Jvm.Stand Jvm.Free Jvm.Free.XT
/-- WHAT COMES BACK, the byte[] as a list of values -/
def QA (Z : State) (x : Addr) (zn : Int32) (cs : List Int32) (h : Heap) (v : Option Value) (h' : Heap) (L : List Loc) : Prop := v = none ∧ (∀ y ∈ L, y.base = x) ∧ RoadKit.Keep h h' [x] ∧ h'.size = h.size + 1 ∧ RoadKit.Exa Z h' x ST ∧ RoadKit.Fld Z h' x ST "value" "[B" (.ref h.size) ∧ RoadKit.Fld Z h' x ST "coder" "B" (.int 0) ∧
  (∃ kb, Z.vm.findClass "[B" = some kb ∧ RoadKit.Arv Z h' h.size kb .byte zn (cs.map fun c => .int (lo8 c)) (.int 0)) ∧
  ∀ (O n d : String) (w : Value), RoadKit.Fld Z h x O n d w → RoadKit.slotOf Z O n d ≠ RoadKit.slotOf Z ST "value" "[B" → RoadKit.slotOf Z O n d ≠ RoadKit.slotOf Z ST "coder" "B" → RoadKit.Fld Z h' x O n d w
/-- **new String(chars) AT A CALL, THE ARRAYS AS LISTS**: the char[] at b holds cs, not empty, no char above 255 -/
theorem backArv {p : Program} {l : Launch} {e : Env} {R : Room} {s : State} {args : Array Value} {below : List Frame} {len W : Nat} {Z : State} {a0 : Array Value} {h : Heap} (hZ : Z.Warmed39 s.vm) (hw : ∀ d ∈ words, d.before a0 Z = true) {kI : Nat} (wi : (Jvm.Cond.instantiable ST kI).before a0 Z = true)
    {x b : Addr} {k : ClassId} {zn z : Int32} {cs : List Int32} {dv v0 c0 : Value} (E : RoadKit.Exa Z h x ST) (V : RoadKit.Fld Z h x ST "value" "[B" v0) (C : RoadKit.Fld Z h x ST "coder" "B" c0) (K : RoadKit.Arv Z h b k .char zn (cs.map Value.int) dv) (S : RoadKit.Sta Z h ST "COMPACT_STRINGS" "Z" (.int z)) (hz : ¬ z = 0)
    (hlen : zn.toNatClampNeg = cs.length) (h0 : 0 < cs.length) (hbig : cs.length ≤ 536870912) (hall : ∀ c ∈ cs, ¬ 255 < c) (hfr : 4 ≤ R.frames) (hlo : W + 65 ≤ R.locals) :
    Back l R p e below s args New1.yN len W (fun P a => a = #[.ref x, .ref b] ∧ P.U.heap = h ∧ P.cells + 1 ≤ R.cells ∧ P.slots + cs.length ≤ R.slots)
      (fun P _ v B => ∃ L, QA Z x zn cs h v B.U.heap L ∧ B.locs = P.locs ++ L ∧ B.cells = P.cells + 1 ∧ B.slots = P.slots + cs.length) := by
  obtain ⟨A, K1, K2, K3, K4, K5, K6⟩ := K
  have e : A.slots.size = cs.length := K3.trans hlen
  have hat : ∀ (i : Nat) (hi : i < cs.length), A.slots[i]? = some (.int cs[i]) := fun i hi => by rw [K5 i (by omega)]; simp [List.getD_eq_getElem?_getD, hi]
  have hcv : ∀ (i : Nat) (hi : i < cs.length), cv A i = cs[i] := fun i hi => by unfold cv; rw [hat i hi]
  have hty : Typed .char A := fun i v hv => by
    have hi : i < A.slots.size := (Array.getElem?_eq_some_iff.mp hv).1
    have q := K5 i hi
    rw [hv] at q
    rw [Option.some.inj q]
    exact K6 i hi
  refine Back.mono (back hZ hw wi E V C K1 hty S hz (by omega) (by omega) (fun i hi => by rw [hcv i (by omega)]; exact hall _ (List.getElem_mem _)) hfr hlo) (fun P a hp => ⟨hp.1, hp.2.1, hp.2.2.1, by rw [e]; exact hp.2.2.2⟩) (fun P a v B hp hq => ?_)
  obtain ⟨L, ⟨q1, q2, q3, q4, q5, q6, q7, ⟨V', v1, v2, v3, v4, v5⟩, q9⟩, hl, hc, hs⟩ := hq
  refine ⟨L, ⟨q1, q2, q3, q4, q5, q6, q7, ⟨V'.cls, v3, V', v1, rfl, by rw [v4, e, hlen], K4, fun i hi => ?_, fun i hi => ?_⟩, q9⟩, hl, hc, by rw [hs, e]⟩
  · have hi' : i < cs.length := by omega
    rw [v5 i (by omega), hcv i hi']; simp [List.getD_eq_getElem?_getD, hi']
  · have hi' : i < cs.length := by omega
    simp only [List.getD_eq_getElem?_getD, List.getElem?_map, List.getElem?_eq_getElem hi', Option.map_some, Option.getD_some]
    exact fits_lo8 _
end StrChars.Road
namespace StrChars.Road
open Jvm Sem ClassFile Op Lib Jvm.Stand Jvm.Free Jvm.Free.XT
/-- WHAT COMES BACK, in the writer's own shape -/
def QV (Z : State) (x : Addr) (N : Int32) (bs : List Int32) (h : Heap) (n0 : Nat) (v : Option Value) (h' : Heap) (L : List Loc) : Prop := v = none ∧ RoadKit.Fr n0 L ∧ RoadKit.Keep h h' [x] ∧ RoadKit.Exa Z h' x ST ∧ RoadKit.Fld Z h' x ST "coder" "B" (.int 0) ∧
  ∃ (t : Addr) (kb : ClassId), n0 ≤ t ∧ h.size ≤ t ∧ ¬ t = x ∧ RoadKit.Fld Z h' x ST "value" "[B" (.ref t) ∧ RoadKit.Arv Z h' t kb .byte N (bs.map Value.int) (.int 0)
/-- **new String(chars) AT A CALL, FOR THE WRITER**: a char[] of n known ints, each 0 to 255 -/
theorem backV {p : Program} {l : Launch} {e : Env} {R : Room} {s : State} {args : Array Value} {below : List Frame} {len W : Nat} {Z : State} {a0 : Array Value} {h : Heap} (hZ : Z.Warmed39 s.vm) (hw : ∀ d ∈ words, d.before a0 Z = true) {kI : Nat} (wi : (Jvm.Cond.instantiable ST kI).before a0 Z = true)
    {x b : Addr} {kC : ClassId} {cs bs : List Int32} {d v0 c0 : Value} {z N : Int32} {n n0 : Nat} (hx0 : n0 ≤ x) (hh0 : n0 ≤ h.size) (E : RoadKit.Exa Z h x ST) (V : RoadKit.Fld Z h x ST "value" "[B" v0) (C : RoadKit.Fld Z h x ST "coder" "B" c0) (K : RoadKit.Arv Z h b kC .char N (cs.map Value.int) d) (S : RoadKit.Sta Z h ST "COMPACT_STRINGS" "Z" (.int z)) (hz : ¬ z = 0)
    (hn : cs.length = n) (hN : N = Int32.ofNat n) (l0 : 0 < n) (l2 : n ≤ 4000) (hp : ∀ c ∈ cs, ¬ c < 0 ∧ ¬ (255 : Int32) < c) (hb : bs = cs.map (fun c => c.toInt8.toInt32)) (hfr : 4 ≤ R.frames) (hlo : W + 65 ≤ R.locals) :
    Back l R p e below s args (⟨"java/lang/String", "<init>", "([C)V"⟩ : MethodName) len W (fun P a => a = #[.ref x, .ref b] ∧ P.U.heap = h ∧ P.cells + 1 ≤ R.cells ∧ P.slots + n ≤ R.slots)
      (fun P _ v B => ∃ L, QV Z x N bs h n0 v B.U.heap L ∧ B.locs = P.locs ++ L ∧ B.cells = P.cells + 1 ∧ B.slots = P.slots + n) := by
  subst hn hN hb
  refine Back.mono (backArv hZ hw wi E V C K S hz (n32 (by omega)) l0 (by omega) (fun c hc => (hp c hc).2) hfr hlo) (fun P a hp => hp) (fun P a v B hp hq => ?_)
  obtain ⟨L, ⟨q1, q2, q3, q4, q5, q6, q7, ⟨kb, v1, v2⟩, q9⟩, hl, hc, hs⟩ := hq
  exact ⟨L, ⟨q1, fun y hy => by rw [q2 y hy]; exact hx0, q3, q5, q7, h.size, kb, hh0, Nat.le_refl _, Nat.ne_of_gt E.lt, q6, by rw [List.map_map]; exact v2⟩, hl, hc, hs⟩
end StrChars.Road
end Jvm.Pilot.@@N@@
namespace Jvm.RoadKit
open Sem ClassFile Op Lib Bundle Jvm.Stand Jvm.Free Jvm.LawKit Jvm.Free.SB Jvm.Free.SBG
/-- a String whose array is not set yet is no constant's -/
theorem own_safe_null {Z : State} {h : Heap} {vm : Vm} {EL : List (String × Nat)} {a : Addr} (hal : Z.vm.Alike vm) (E : Exa Z h a "java/lang/String") (F : Fld Z h a "java/lang/String" "value" "[B" .null) : Safe Z EL vm h a := fun B => by
  obtain ⟨cell, k, e1, e2, e3, -, -⟩ := E
  obtain ⟨cell', cf, k', i, f, f1, f2, f3, f4, -, -, f7⟩ := F
  cases e1.symm.trans f1
  obtain ⟨p, -, u, b, -, q, -, SB, rfl | rfl⟩ := B
  · cases (show h[q.sa]? = some q.sC from SB.ha).symm.trans e1
    obtain ⟨cS, ⟨⟨-, -, -, ⟨c1, k1, i1, g1, -⟩, -, -, -, v1, -⟩, -⟩, -⟩ := SB
    obtain ⟨k3, e3', -⟩ := State.fieldFound?_setVm (s := Z) hal f2
    have e4 := (show (Wst Z vm h).fieldFound? "java/lang/String" "value" "[B" = some (cf, k3, i, f) from e3').symm.trans g1
    simp only [Option.some.injEq, Prod.mk.injEq] at e4
    rw [← e4.2.2.2, f7] at v1
    cases v1
  · cases (show h[q.sd]? = some q.SA from SB.hd).symm.trans e1
    obtain ⟨cS, -, -, fB, -⟩ := SB
    have fB : vm.findClass "[B" = some q.SA.cls := fB
    rw [hal.findClass] at fB
    obtain ⟨k1, q1, q2⟩ := Vm.findClass_spec fB
    obtain ⟨k2, q3, q4⟩ := Vm.findClass_spec e2
    cases q1.symm.trans q3
    exact absurd (q2.symm.trans q4) (by decide)
end Jvm.RoadKit
namespace Jvm.RoadKit
open Sem ClassFile Op Lib Jvm.Stand Jvm.Free Jvm.LawKit
section OwnRefs
variable {p : Program} {l : Launch} {e : Env} {R : Room} {s Z : State} {a0 : Array Value} {m : MethodId} {args : Array Value} {below : List Frame} {meth : Method} {c : Code} {T : State} {locs : List Loc} {cells slots : Nat} {h : Heap}
/-- a field through a resolved entry (the word fieldRef) -/
theorem own_getR (X : Stand p l e R s m args below meth c T locs cells slots) (hx : p.tables.exec = Jvm.exec) (hZ : Z.Warmed39 s.vm) {own O n d : String} {index : Nat} (hown : s.vm.findClass own = some m.cls) (w : (Cond.fieldRef own index O n d).before a0 Z = true)
    (eT : T.heap = h) {a : Addr} {v : Value} (F : Fld Z h a O n d v) {g : JFrame} (hg : g.method = m) {rest : List Value} (hs : g.stack = .ref a :: rest) (hd : decode c.code g.pc = .ok (.getfield index, 3)) : ∃ T', Stand p l e R s m args below meth c T' locs cells slots ∧ T'.heap = h ∧ ∀ target, Steps p.tables e below (T'.setTop { g with pc := g.pc + 3, stack := v :: rest }) target → Steps p.tables e below (T.setTop g) target := by
  obtain ⟨cell, cf, k, i, f, h1, h2, h3, h4, -, -, h7⟩ := F
  have hU : Z.Warmed39 T.vm := wtrans hZ X.warmed
  have w1 := Cond.fieldRef_warmed39 hU w
  have hcur : (Z.setVm T.vm).vm.findClass own = some m.cls := by
    show T.vm.findClass own = _
    rw [X.warmed.alike.findClass]; exact hown
  obtain ⟨c', k', i', f', q1, q2⟩ := Cond.fieldRef_spec hcur w1
  obtain ⟨k2, hi, -⟩ := State.fieldFound?_setVm (s := Z) hU.alike h2
  have hi' : (Z.setVm T.vm).fieldFound? O n d = some (cf, k2, i, f) := hi
  cases hi'.symm.trans q1
  refine ⟨T, X, eT, fun target hrest => ?_⟩
  subst hg
  jvm_step X.here [hx, hd, getfield.wp_ready (e := e) (s := T) (f := g) X.here.top q2 h3 hs (show T.heap[a]? = some cell by rw [eT]; exact h1) h4 h7]
  exact hrest
/-- a constructor through a resolved entry (the word methodRef) -/
theorem own_specR (X : Stand p l e R s m args below meth c T locs cells slots) (hexec : p.tables.exec = Jvm.exec) (hZ : Z.Warmed39 s.vm) {own : String} {index : Nat} {y : MethodName} (hy1 : y.name = "<init>")
    (hown : s.vm.findClass own = some m.cls) (wr : (Cond.methodRef own index y).before a0 Z = true) (wi : (Cond.instanceMethod y).before a0 Z = true)
    {bytes : ByteArray} {maxL : Nat} (wc : (Cond.code y bytes maxL none).before a0 Z = true)
    (hy : y.cls ≠ "java/lang/invoke/MethodHandle" ∧ y.cls ≠ "java/lang/invoke/VarHandle")
    {W : Nat} {Pre : Pt → Array Value → Prop} {Post : Pt → Array Value → Option Value → Pt → Prop} (hK : Back l R p e below s args y 3 W Pre Post)
    {g : JFrame} (hg : g.method = m) (hsize : g.locals.size = c.maxLocals) {s₀ : State} (hcome : Steps p.tables e below s₀ (T.setTop g)) {a : Addr} {argsL rest : List Value}
    (hlen : ∀ sig, parseMethodDescriptor y.desc = some sig → argsL.length = sig.parameters.length) (hstack : g.stack = argsL.reverse ++ .ref a :: rest) (hW : 2 * g.monitorRoom + (rest.map fun v => v.category).sum ≤ W)
    (hdg : decode c.code g.pc = .ok (.invokespecial index, 3)) (hpre : ∀ vm₁, s.WarmedH vm₁ → Pre ⟨T.setVm vm₁, locs, cells, slots⟩ (.ref a :: argsL).toArray) :
    ∃ (v : Option Value) (vm₁ : Vm) (B : Pt), s.WarmedH vm₁ ∧ Stand p l e R s m args below meth c B.U B.locs B.cells B.slots ∧ Post ⟨T.setVm vm₁, locs, cells, slots⟩ (.ref a :: argsL).toArray v B ∧
      Steps p.tables e below s₀ (B.U.setTop { g with pc := g.pc + 3, stack := v.toList ++ rest }) := by
  have hU : Z.Warmed39 T.vm := wtrans hZ X.warmed
  obtain ⟨obj, methO, hnZ, hmZ, hstO, habO⟩ := Cond.instanceMethod_spec wi
  obtain ⟨methO', cO, hmO', hcO, hbO, hlO, -, hlockO, -, hsigO⟩ := Cond.code_spec hnZ wc
  cases hmZ.symm.trans hmO'
  obtain ⟨kO, hkO, hnameO⟩ := className_of_methodNamed hnZ
  obtain ⟨hnameMO, hdescO⟩ := name_of_methodNamed hnZ hmZ
  have hnS : s.methodNamed? y = some obj := by
    have q : (Z.setVm s.vm).methodNamed? y = some obj := by rw [State.methodNamed?_setVm hZ.alike]; exact hnZ
    exact q
  have hcur : (Z.setVm T.vm).vm.findClass own = some m.cls := by
    show T.vm.findClass own = _
    rw [X.warmed.alike.findClass]; exact hown
  obtain ⟨m0, c', q1, q2, q3, q4⟩ := Cond.methodRef_named e hcur (Cond.methodRef_warmed39 hU hnZ hy wr)
  have q1' := State.methodFound?_of_named (s := Z.setVm T.vm) (show (Z.setVm T.vm).methodNamed? y = some obj by rw [State.methodNamed?_setVm hU.alike]; exact hnZ) hy
  cases q1'.symm.trans q1
  have hc' : c' = obj.cls := by
    have q5 : T.vm.findClass y.cls = some c' := q3
    rw [hU.alike.findClass, findClass_of_methodNamed hnZ] at q5
    exact (Option.some.inj q5).symm
  subst hc'
  obtain ⟨kO₂, hkO₂, heO₂⟩ := hU.alike.2.2 _ _ hkO
  have hmO₂ : T.vm.method? obj = some methO := by rw [hU.alike.method?]; exact hmZ
  have hfound : lookupSpecial T.vm obj.cls "<init>" methO.desc = .method obj := by
    rw [hU.alike.lookupSpecial, hdescO, ← hy1]; exact lookupSpecial_of_named hnZ hmZ hstO
  have hstep : ∀ target, (∀ acts, Steps p.tables e below (doInvoke e (T.setTop { g with stack := rest }) acts obj (.ref a :: argsL).toArray).1 target) → Steps p.tables e below (T.setTop g) target := by
    intro target hrest
    subst hg
    jvm_step X.here [hexec, hdg, invokespecial.wp_init (e := e) (s := T) (k := kO₂) (meth := methO) (m := obj) (a := a) (args := argsL) (rest := rest) (f := g) X.here.top q4 q2 hkO₂ hmO₂ (by rw [hnameMO]; exact hy1) hstO habO hfound (hlen _ hsigO) hstack]
    exact hrest
  have eT : T.setVm T.vm = T := rfl
  obtain ⟨v, B, X', hpost, hsteps⟩ := hK m meth c ⟨T, locs, cells, slots⟩ { g with stack := rest } (.invokespecial index) obj (Value.ref a :: argsL).toArray X hg hsize hdg hW (X.named hnS) (show Pre ⟨T, locs, cells, slots⟩ (Value.ref a :: argsL).toArray from hpre T.vm X.warmed)
  exact ⟨v, T.vm, B, X.warmed, X', hpost, (hcome.trans (hstep _ fun acts => by rw [doInvoke_state]; exact Steps.refl _)).trans hsteps⟩
/-- dup2_x1 of a long above a reference -/
theorem own_dup2x1 {tb : Tables} [Ours tb] {T target : State} {g : JFrame} (h : At T m c below) (hx : tb.exec = Jvm.exec) (hg : g.method = m) {x : Int64} {y : Addr} {rest : List Value} (hd : decode c.code g.pc = .ok (.dup2_x1, 1)) (hs : g.stack = .long x :: .ref y :: rest)
    (hr : Steps tb e below (T.setTop { g with pc := g.pc + 1, stack := .long x :: .ref y :: .long x :: rest }) target) : Steps tb e below (T.setTop g) target := by
  subst hg
  jvm_step h [h.top, hx, hd, hs, Value.category]
  exact hr
theorem own_selp {C : String} {x z y : MethodName} (hsel : (Cond.selects C x z).before a0 Z = true) (e0 : z.cls = y.cls) (hp : (Cond.privateMethod y).before a0 Z = true) (hi : (Cond.instanceMethod y).before a0 Z = true) (hy : y.cls ≠ "java/lang/invoke/MethodHandle" ∧ y.cls ≠ "java/lang/invoke/VarHandle") : (Cond.selects y.cls y y).before a0 Z = true := by
  obtain ⟨c2, r2, m2, q1, q2, q3, q4, kP, hkP, hkPi⟩ := Cond.selects_spec hsel
  have a1 := findClass_of_methodNamed q3
  rw [e0] at a1
  obtain ⟨mk, methM, hnamed, hmethM, -, -⟩ := Cond.instanceMethod_spec hi
  have a2 := findClass_of_methodNamed hnamed
  have e2 := Option.some.inj (a1.symm.trans a2)
  exact selects_self_of_private a2 (by rw [← e2]; exact hkP) hkPi (Cond.privateMethod_at hp) hi hy
end OwnRefs
end Jvm.RoadKit
namespace Jvm.RoadKit
open Sem ClassFile Op Lib Jvm.Stand Jvm.Free Jvm.LawKit
/-- the int is the list's length -/
def own_fit (vs : List Value) (n : Int32) : Prop := n.toInt = vs.length
theorem own_fit.nn {vs : List Value} {n : Int32} (h : own_fit vs n) : ¬ n < 0 := by
  rw [Int32.lt_iff_toInt_lt]; have e : (0 : Int32).toInt = 0 := rfl
  unfold own_fit at h; omega
theorem own_fit.cl {vs : List Value} {n : Int32} (h : own_fit vs n) : n.toNatClampNeg = vs.length := by
  unfold own_fit at h; simp only [Int32.toNatClampNeg]; omega
theorem own_fit.add {us vs : List Value} {n m : Int32} (h : own_fit us n) (k : own_fit vs m) (b : us.length + vs.length ≤ 100000) : own_fit (us ++ vs) (n + m) := by
  unfold own_fit at *
  rw [List.length_append]
  have c1 := c_iadd n m
  have c2 := Int32.toInt_lt (n + m)
  have c3 := Int32.le_toInt (n + m)
  omega
theorem own_fit.cap {us vs : List Value} {n m : Int32} (h : own_fit us n) (k : own_fit vs m) (b : us.length + vs.length ≤ 16) : ¬ ((0 : Int32) < ((n + m) - (16 : Int32))) := by
  have f := own_fit.add h k (by omega)
  unfold own_fit at f
  rw [List.length_append] at f
  rw [Int32.lt_iff_toInt_lt]
  have e : (0 : Int32).toInt = 0 := rfl
  have e1 : (16 : Int32).toInt = 16 := rfl
  have c1 := c_isub (n + m) 16
  have c2 := Int32.toInt_lt ((n + m) - 16)
  have c3 := Int32.le_toInt ((n + m) - 16)
  omega
theorem own_fit.lt {vs : List Value} {n : Int32} (h : own_fit vs n) (b : vs.length ≤ 15) : n < (16 : Int32) := by
  rw [Int32.lt_iff_toInt_lt]; have e : (16 : Int32).toInt = 16 := rfl
  unfold own_fit at h; omega
theorem own_fit.ne {vs : List Value} {n : Int32} (h : own_fit vs n) (b : vs.length ≤ 15) : ¬ (n = (16 : Int32)) := fun q => by
  have e : (16 : Int32).toInt = 16 := rfl
  unfold own_fit at h; rw [q] at h; omega
theorem own_shl0 (x : Int32) : x <<< ((0 : Int32) &&& 31) = x := by
  have e : ((0 : Int32) &&& 31) = 0 := by decide
  rw [e]; exact Int32.shiftLeft_zero
theorem own_shr0 (x : Int32) : x >>> ((0 : Int32) &&& 31) = x := by
  have e : ((0 : Int32) &&& 31) = 0 := by decide
  rw [e]; exact Int32.shiftRight_zero
theorem own_sub0 (x : Int32) : x - (0 : Int32) = x := by simp
theorem own_same {Z : State} {a0 : Array Value} {C : String} {x z y : MethodName} (hsel : (Cond.selects C x z).before a0 Z = true) (e0 : z.cls = y.cls) (hi : (Cond.instanceMethod y).before a0 Z = true) (hy : y.cls ≠ "java/lang/invoke/MethodHandle" ∧ y.cls ≠ "java/lang/invoke/VarHandle") : (Cond.sameMethod y.cls y.cls y.name y.desc).before a0 Z = true := by
  obtain ⟨c2, r2, m2, q1, q2, q3, q4, kP, hkP, hkPi⟩ := Cond.selects_spec hsel
  have a1 := findClass_of_methodNamed q3
  rw [e0] at a1
  obtain ⟨mk, methM, hnamed, hmethM, -, -⟩ := Cond.instanceMethod_spec hi
  have hf := State.methodFound?_of_named hnamed hy
  simp [Cond.before, Cond.holds, Cond.value, a1, hf, hnamed, hkP, hkPi]
/-- the builder's array holds the list and is not too long -/
def own_cap (us : List Value) (cp : Int32) : Prop := (us.length : Int) ≤ cp.toInt ∧ 16 ≤ cp.toInt ∧ (cp.toInt = 16 ∨ cp.toInt = 34 ∨ cp.toInt = 70 ∨ cp.toInt = 142)
def own_mn (mn cp : Int32) : Prop := 0 ≤ mn.toInt ∧ mn.toInt ≤ 125 ∧ mn.toInt ≤ 2 * cp.toInt + 2
theorem own_cap.nn {us : List Value} {cp : Int32} (h : own_cap us cp) : ¬ cp < 0 := by
  rw [Int32.lt_iff_toInt_lt]; have e : (0 : Int32).toInt = 0 := rfl
  obtain ⟨h1, h2, h3⟩ := h; omega
theorem own_cap.le {us : List Value} {cp : Int32} (h : own_cap us cp) : us.length ≤ cp.toNatClampNeg := by
  obtain ⟨h1, h2, h3⟩ := h; simp only [Int32.toNatClampNeg]; omega
theorem own_mn_of {us vs : List Value} {n m cp : Int32} (h : own_fit us n) (k : own_fit vs m) (b : us.length + vs.length ≤ 125) (b2 : ((us.length + vs.length : Nat) : Int) ≤ 2 * cp.toInt + 2) : own_mn (n + m) cp := by
  have f := own_fit.add h k (by omega)
  unfold own_fit at f; rw [List.length_append] at f
  exact ⟨by omega, by omega, by omega⟩
theorem own_no {us vs : List Value} {n m cp : Int32} (h : own_fit us n) (k : own_fit vs m) (hc : own_cap us cp) (q : us.length + vs.length ≤ cp.toNatClampNeg) : ¬ ((0 : Int32) < ((n + m) - cp)) := by
  obtain ⟨h1, h2, h3⟩ := hc
  simp only [Int32.toNatClampNeg] at q
  have f := own_fit.add h k (by omega)
  unfold own_fit at f; rw [List.length_append] at f
  have c1 := c_isub (n + m) cp
  have c2 := rng32 ((n + m) - cp)
  rw [Int32.lt_iff_toInt_lt]; have e : (0 : Int32).toInt = 0 := rfl
  omega
theorem own_gt {us : List Value} {mn cp : Int32} (hm : own_mn mn cp) (hc : own_cap us cp) : (0 : Int32) < (mn - cp) ↔ cp.toInt < mn.toInt := by
  obtain ⟨h1, h2, h3⟩ := hc
  obtain ⟨m1, m2, m3⟩ := hm
  have c1 := c_isub mn cp
  have c2 := rng32 (mn - cp)
  rw [Int32.lt_iff_toInt_lt]; have e : (0 : Int32).toInt = 0 := rfl
  constructor <;> intro q <;> omega
theorem own_nl {us : List Value} {mn cp : Int32} {r1 : Int32} (hm : own_mn mn cp) (hc : own_cap us cp) (hq : (0 : Int32) < (mn - cp)) (e : r1 = (cp + (if (mn - cp) < (cp + (2 : Int32)) then (cp + (2 : Int32)) else (mn - cp)))) : mn.toInt ≤ r1.toInt ∧ r1.toInt = 2 * cp.toInt + 2 := by
  have hlt := (own_gt hm hc).mp hq
  obtain ⟨h1, h2, h3⟩ := hc
  obtain ⟨m1, m2, m3⟩ := hm
  have c1 := c_isub mn cp
  have c2 := rng32 (mn - cp)
  have c3 := c_iadd cp 2
  have c4 := rng32 (cp + 2)
  have e2 : (2 : Int32).toInt = 2 := rfl
  by_cases q : (mn - cp) < (cp + (2 : Int32))
  · rw [if_pos q] at e
    have c5 := c_iadd cp (cp + 2)
    have c6 := rng32 (cp + (cp + 2))
    rw [Int32.lt_iff_toInt_lt] at q
    rw [e]; omega
  · rw [if_neg q] at e
    have c5 := c_iadd cp (mn - cp)
    have c6 := rng32 (cp + (mn - cp))
    rw [Int32.lt_iff_toInt_lt] at q
    rw [e]; omega
theorem own_pos {us : List Value} {mn cp r1 : Int32} (hm : own_mn mn cp) (hc : own_cap us cp) (hq : (0 : Int32) < (mn - cp)) (q : mn.toInt ≤ r1.toInt ∧ r1.toInt = 2 * cp.toInt + 2) : (0 : Int32) < r1 ∧ ¬ ((2147483639 : Int32) < r1) ∧ ¬ (r1 = (2147483647 : Int32)) ∧ ¬ (r1 = cp) ∧ ¬ (r1 < cp) ∧ ¬ (r1 < 0) ∧ own_cap us r1 ∧ r1.toNatClampNeg ≤ 142 ∧ cp.toNatClampNeg ≤ r1.toNatClampNeg := by
  have hlt := (own_gt hm hc).mp hq
  obtain ⟨h1, h2, h3⟩ := hc
  obtain ⟨m1, m2, m3⟩ := hm
  have e0 : (0 : Int32).toInt = 0 := rfl
  have e1 : (2147483639 : Int32).toInt = 2147483639 := rfl
  have e2 : (2147483647 : Int32).toInt = 2147483647 := rfl
  refine ⟨?_, ?_, ?_, ?_, ?_, ?_, ⟨?_, ?_, ?_⟩, ?_, ?_⟩
  · rw [Int32.lt_iff_toInt_lt]; omega
  · rw [Int32.lt_iff_toInt_lt]; omega
  · intro h; rw [h] at q; omega
  · intro h; rw [h] at q; omega
  · rw [Int32.lt_iff_toInt_lt]; omega
  · rw [Int32.lt_iff_toInt_lt]; omega
  · omega
  · omega
  · omega
  · simp only [Int32.toNatClampNeg]; omega
  · simp only [Int32.toNatClampNeg]; omega
theorem own_room {us vs : List Value} {n m cp : Int32} (h : own_fit us n) (k : own_fit vs m) (b : us.length + vs.length ≤ 125) (q : (n + m).toInt ≤ cp.toInt) : us.length + vs.length ≤ cp.toNatClampNeg := by
  have f := own_fit.add h k (by omega)
  unfold own_fit at f; rw [List.length_append] at f
  simp only [Int32.toNatClampNeg]; omega
theorem own_cap.app {us vs : List Value} {cp : Int32} (h : own_cap us cp) (q : us.length + vs.length ≤ cp.toNatClampNeg) : own_cap (us ++ vs) cp := by
  obtain ⟨h1, h2, h3⟩ := h
  simp only [Int32.toNatClampNeg] at q
  exact ⟨by rw [List.length_append]; omega, h2, h3⟩
theorem own_kp {b2 sb vb n : Nat} (h : b2 = vb ∨ n ≤ b2) : b2 ∈ [sb, vb] ∨ n ≤ b2 := by
  rcases h with h | h
  · exact Or.inl (by simp [h])
  · exact Or.inr h
theorem own_byte {v : Value} (h : fits .byte v = true) : ∃ x, v = .int x := by
  cases v <;> first | exact ⟨_, rfl⟩ | (simp [fits] at h)
theorem own_arvI {Z : State} {h : Heap} {a : Addr} {k : ClassId} {z j : Int32} {vs : List Value} {d : Value} (A : Arv Z h a k .byte z vs d) (q : ¬ j < 0 ∧ j < z) : ∃ x, vs.getD j.toNatClampNeg d = .int x := by
  obtain ⟨c, A1, -, S, hz, -, G⟩ := A
  refine own_byte (G _ ?_)
  rw [S]
  have e0 : (0 : Int32).toInt = 0 := rfl
  obtain ⟨q1, q2⟩ := q
  rw [Int32.lt_iff_toInt_lt] at q1 q2
  simp only [Int32.toNatClampNeg]; omega
/-- two lists that agree up to a place -/
def own_eqi (va wb : List Value) (ii : Int32) : Prop := 0 ≤ ii.toInt ∧ ii.toInt ≤ va.length ∧ ∀ k : Nat, (k : Int) < ii.toInt → va.getD k (.int (0 : Int32)) = wb.getD k (.int (0 : Int32))
theorem own_eqi0 (va wb : List Value) : own_eqi va wb (0 : Int32) := ⟨by decide, by show (0 : Int) ≤ _; omega, fun k hk => absurd hk (by show ¬ ((k : Int) < 0); omega)⟩
theorem own_eqin {va wb : List Value} {na ii : Int32} (f : own_fit va na) (H : own_eqi va wb ii) (h : ii < na) : ¬ ii < (0 : Int32) ∧ ii < na := by
  refine ⟨?_, h⟩
  rw [Int32.lt_iff_toInt_lt]; have e0 : (0 : Int32).toInt = 0 := rfl
  have := H.1; omega
theorem own_eqiS {va wb : List Value} {na ii x y : Int32} (f : own_fit va na) (H : own_eqi va wb ii) (h : ii < na) (ex : va.getD ii.toNatClampNeg (.int (0 : Int32)) = .int x) (ey : wb.getD ii.toNatClampNeg (.int (0 : Int32)) = .int y) (q : x = y) : own_eqi va wb (ii + (1 : Int32)) := by
  obtain ⟨h1, h2, h3⟩ := H
  unfold own_fit at f
  rw [Int32.lt_iff_toInt_lt] at h
  have c1 := c_iadd ii 1
  have c2 := rng32 (ii + 1)
  have c3 := rng32 na
  have e1 : (1 : Int32).toInt = 1 := rfl
  have e2 : (ii + 1).toInt = ii.toInt + 1 := by omega
  refine ⟨by omega, by omega, fun k hk => ?_⟩
  by_cases hk2 : (k : Int) < ii.toInt
  · exact h3 k hk2
  · have ek : k = ii.toNatClampNeg := by simp only [Int32.toNatClampNeg]; omega
    rw [ek, ex, ey, q]
theorem own_eqm {va : List Value} {na ii : Int32} (f : own_fit va na) (h1 : 0 ≤ ii.toInt) (h : ii < na) : va.length - (ii + (1 : Int32)).toInt.toNat < va.length - ii.toInt.toNat := by
  unfold own_fit at f
  rw [Int32.lt_iff_toInt_lt] at h
  have c1 := c_iadd ii 1
  have c2 := rng32 (ii + 1)
  have c3 := rng32 na
  have e1 : (1 : Int32).toInt = 1 := rfl
  omega
theorem own_eqY {va wb : List Value} {na nb ii : Int32} (f : own_fit va na) (g : own_fit wb nb) (e : na = nb) (H : own_eqi va wb ii) (h : ¬ ii < na) : va = wb := by
  obtain ⟨h1, h2, h3⟩ := H
  unfold own_fit at f g
  rw [Int32.lt_iff_toInt_lt] at h
  rw [e] at f h
  apply List.ext_getElem (by omega)
  intro i i1 i2
  have := h3 i (by omega)
  simpa [i1, i2] using this
theorem own_eqN {va wb : List Value} {na nb : Int32} (f : own_fit va na) (g : own_fit wb nb) (e : ¬ na = nb) : ¬ va = wb := fun q => e (by
  unfold own_fit at f g; rw [q] at f; exact Int32.toInt_inj.mp (by omega))
theorem own_eqX {va wb : List Value} {ii x y : Int32} (ex : va.getD ii.toNatClampNeg (.int (0 : Int32)) = .int x) (ey : wb.getD ii.toNatClampNeg (.int (0 : Int32)) = .int y) (q : ¬ x = y) : ¬ va = wb := fun z => q (by
  rw [z, ey] at ex; exact (Value.int.inj ex).symm)
theorem own_c250 {us : List Value} {cn cp : Int32} (f : own_fit us cn) (h : own_cap us cp) : cn.toNatClampNeg ≤ 142 := by
  rw [own_fit.cl f]; obtain ⟨h1, h2, h3⟩ := h; omega
theorem own_c250c {us : List Value} {cp : Int32} (h : own_cap us cp) : cp.toNatClampNeg ≤ 142 := by
  obtain ⟨h1, h2, h3⟩ := h; simp only [Int32.toNatClampNeg]; omega
theorem own_clt {us : List Value} {cn cp : Int32} (f : own_fit us cn) (h : own_cap us cp) (q : ¬ cn = cp) : cn < cp := by
  unfold own_fit at f; obtain ⟨h1, h2, h3⟩ := h
  rw [Int32.lt_iff_toInt_lt]
  have : cn.toInt ≠ cp.toInt := fun z => q (Int32.toInt_inj.mp z)
  omega
section OwnSb
variable {p : Program} {l : Launch} {e : Env} {R : Room} {s Z : State} {m : MethodId} {args : Array Value} {below : List Frame} {meth : Method} {c : Code} {T : State} {locs : List Loc} {cells slots : Nat} {h : Heap}
/-- arraycopy of a byte[]'s list behind another's -/
theorem own_cp (X : Stand p l e R s m args below meth c T locs cells slots) (hx : p.tables.exec = Jvm.exec) (hZ : Z.Warmed39 s.vm) {a0 : Array Value} {own : String} {index : Nat} (hown : s.vm.findClass own = some m.cls)
    (w1 : (Cond.methodLink own index Jvm.Stand.acN).before a0 Z = true) (w2 : (Cond.native Jvm.Stand.acN).before a0 Z = true) (w3 : (Cond.static Jvm.Stand.acN).before a0 Z = true) (w4 : (Cond.initialized "java/lang/System").before a0 Z = true) (eT : T.heap = h)
    {a b : Addr} {k k' : ClassId} {z z' dp nn : Int32} {vs ud : List Value} (A : Arv Z h a k .byte z vs (.int 0)) (B : Arv Z h b k' .byte z' ud (.int 0)) (f1 : own_fit vs nn) (f2 : own_fit ud dp) (q1 : vs.length ≤ z.toNatClampNeg) (q2 : ud.length + vs.length ≤ z'.toNatClampNeg)
    {n0 : Nat} (N : Fr n0 locs) (ge : n0 ≤ b) {g : JFrame} (hg : g.method = m) (hsize : g.locals.size = c.maxLocals) {rest : List Value} (hs : g.stack = .int nn :: .int dp :: .ref b :: .int 0 :: .ref a :: rest) (hd : decode c.code g.pc = .ok (.invokestatic index, 3))
    (hf : 1 ≤ R.frames) {W : Nat} (hW : 2 * g.monitorRoom + (rest.map fun v => v.category).sum ≤ W) (hlo : W + (nativeFrameWords "java/lang/System" "arraycopy" 5 + 11) ≤ R.locals) :
    ∃ T' h' L, Stand p l e R s m args below meth c T' L cells slots ∧ T'.heap = h' ∧ Fr n0 L ∧ Keep h h' [b] ∧ Arv Z h' b k' .byte z' (ud ++ vs) (.int 0) ∧
      ∀ target, Steps p.tables e below (T'.setTop { g with pc := g.pc + 3, stack := rest }) target → Steps p.tables e below (T.setTop g) target := by
  have e0 : (0 : Int32).toNatClampNeg = 0 := rfl
  have hus : vs = (List.range nn.toNatClampNeg).map fun i => vs.getD ((0 : Int32).toNatClampNeg + i) (.int 0) := by
    rw [f1.cl, e0]
    apply List.ext_getElem (by simp)
    intro i h1 h2
    simp [h1]
  obtain ⟨T', h', L, X', e', N', K, B', st⟩ := cpA X hx hZ hown w1 w2 w3 w4 eT A (B.pad (pad_rep ud (.int 0) vs.length)) (Or.inl ⟨rfl, rfl⟩) (sp := 0) (by decide) f2.nn f1.nn (by rw [f1.cl, e0]; omega) (by rw [f1.cl, f2.cl]; exact q2) hus (by rw [f1.cl, f2.cl]; simp) N ge hg hsize hs hd hf hW hlo
  refine ⟨T', h', L, X', e', N', K, ?_, st⟩
  have e1 : (ud ++ List.replicate vs.length (Value.int 0)).take dp.toNatClampNeg ++ vs ++ (ud ++ List.replicate vs.length (Value.int 0)).drop (dp.toNatClampNeg + nn.toNatClampNeg) = ud ++ vs := by
    rw [f1.cl, f2.cl]; simp
  rw [e1] at B'; exact B'
/-- arraycopy of a byte[]'s first nn, her list among them, into a new one -/
theorem own_cp0 (X : Stand p l e R s m args below meth c T locs cells slots) (hx : p.tables.exec = Jvm.exec) (hZ : Z.Warmed39 s.vm) {a0 : Array Value} {own : String} {index : Nat} (hown : s.vm.findClass own = some m.cls)
    (w1 : (Cond.methodLink own index Jvm.Stand.acN).before a0 Z = true) (w2 : (Cond.native Jvm.Stand.acN).before a0 Z = true) (w3 : (Cond.static Jvm.Stand.acN).before a0 Z = true) (w4 : (Cond.initialized "java/lang/System").before a0 Z = true) (eT : T.heap = h)
    {a b : Addr} {k k' : ClassId} {z z' nn : Int32} {vs : List Value} (A : Arv Z h a k .byte z vs (.int 0)) (B : Arv Z h b k' .byte z' [] (.int 0)) (q0 : vs.length ≤ nn.toNatClampNeg) (h3 : ¬ nn < 0) (q1 : nn.toNatClampNeg ≤ z.toNatClampNeg) (q2 : nn.toNatClampNeg ≤ z'.toNatClampNeg)
    {n0 : Nat} (N : Fr n0 locs) (ge : n0 ≤ b) {g : JFrame} (hg : g.method = m) (hsize : g.locals.size = c.maxLocals) {rest : List Value} (hs : g.stack = .int nn :: .int 0 :: .ref b :: .int 0 :: .ref a :: rest) (hd : decode c.code g.pc = .ok (.invokestatic index, 3))
    (hf : 1 ≤ R.frames) {W : Nat} (hW : 2 * g.monitorRoom + (rest.map fun v => v.category).sum ≤ W) (hlo : W + (nativeFrameWords "java/lang/System" "arraycopy" 5 + 11) ≤ R.locals) :
    ∃ T' h' L, Stand p l e R s m args below meth c T' L cells slots ∧ T'.heap = h' ∧ Fr n0 L ∧ Keep h h' [b] ∧ Arv Z h' b k' .byte z' vs (.int 0) ∧
      ∀ target, Steps p.tables e below (T'.setTop { g with pc := g.pc + 3, stack := rest }) target → Steps p.tables e below (T.setTop g) target := by
  have fl : (vs ++ List.replicate (nn.toNatClampNeg - vs.length) (Value.int 0)).length = nn.toNatClampNeg := by simp; omega
  have f1 : own_fit (vs ++ List.replicate (nn.toNatClampNeg - vs.length) (Value.int 0)) nn := by
    unfold own_fit; rw [fl]
    rw [Int32.lt_iff_toInt_lt] at h3; have e0 : (0 : Int32).toInt = 0 := rfl
    simp only [Int32.toNatClampNeg]; omega
  obtain ⟨T', h', L, X', e', N', K, B', st⟩ := own_cp X hx hZ hown w1 w2 w3 w4 eT (A.pad (pad_rep vs (.int 0) (nn.toNatClampNeg - vs.length))) B f1 (rfl : own_fit [] (0 : Int32)) (by rw [fl]; exact q1) (by rw [fl]; exact Nat.le_trans (Nat.le_of_eq (Nat.zero_add _)) q2) N ge hg hsize hs hd hf hW hlo
  exact ⟨T', h', L, X', e', N', K, B'.pad (fun i => (pad_rep vs (.int 0) (nn.toNatClampNeg - vs.length) i).symm), st⟩
end OwnSb
end Jvm.RoadKit
namespace Jvm.Pilot.@@N@@
open Jvm Jvm.ClassFile Sem Op Lib Jvm.Free Jvm.Stand Jvm.LawKit Jvm.RoadKit Bundle Jvm.Pilot.@@N@@.Jvm.D
theorem own_go {tb : Tables} {e : Env} {below : List Frame} {A B : State} {P : State → Outcome → Prop} (st : ∀ t, Steps tb e below B t → Steps tb e below A t) (k : ∃ t o, Steps tb e below B t ∧ P t o) : ∃ t o, Steps tb e below A t ∧ P t o := by
  obtain ⟨t, o, h1, h2⟩ := k
  exact ⟨t, o, st t h1, h2⟩
theorem own_goT {tb : Tables} {e : Env} {below : List Frame} {A B : State} {P : State → Outcome → Prop} (st : Steps tb e below A B) (k : ∃ t o, Steps tb e below B t ∧ P t o) : ∃ t o, Steps tb e below A t ∧ P t o := by
  obtain ⟨t, o, h1, h2⟩ := k
  exact ⟨t, o, st.trans h1, h2⟩
theorem own_nameP {tb : Tables} {e : Env} {below : List Frame} {A : State} {Q : State → Outcome → Prop} (k : ∀ P : State → Outcome → Prop, P = Q → ∃ t o, Steps tb e below A t ∧ P t o) : ∃ t o, Steps tb e below A t ∧ Q t o := k Q rfl
theorem own_nfo {args : Array Value} {s : State} {C : String} {x y z : MethodName} (hsel : (Jvm.Cond.selects C x z).before args s = true) (e : z.cls = y.cls) : NotFace s y := fun r0 h0 => by
  obtain ⟨c2, r2, m2, q1, q2, q3, q4, kP, hkP, hkPi⟩ := Cond.selects_spec hsel
  have a1 := findClass_of_methodNamed q3
  have a2 := findClass_of_methodNamed h0
  rw [e] at a1
  have e2 := Option.some.inj (a1.symm.trans a2)
  exact ⟨kP, by rw [← e2]; exact hkP, hkPi⟩
theorem own_ifc {α : Type} {P R : Prop} [Decidable P] [Decidable R] (a b : α) (h : P ↔ R) : (if P then a else b) = (if R then a else b) := by
  by_cases q : P
  · rw [if_pos q, if_pos (h.mp q)]
  · rw [if_neg q, if_neg fun r => q (h.mpr r)]
theorem own_ne {a b : Nat} (h : a < b ∨ b < a) : a ≠ b := by omega
theorem own_ltn {a n : Nat} (h : a < n) : a < n := h
theorem own_keep_le {h h' : Heap} {ws : List Addr} (K : Keep h h' ws) : h.size ≤ h'.size := K.1
theorem own_and255 (x : Int32) : ¬ nar .char ((x &&& (255 : Int32)).toUInt32.toUInt16.toUInt32.toInt32) < 0 ∧ ¬ (255 : Int32) < nar .char ((x &&& (255 : Int32)).toUInt32.toUInt16.toUInt32.toInt32) := by
  have t : ∀ k : Fin 256, ¬ nar .char ((Int32.ofNat k.val).toUInt32.toUInt16.toUInt32.toInt32) < 0 ∧ ¬ (255 : Int32) < nar .char ((Int32.ofNat k.val).toUInt32.toUInt16.toUInt32.toInt32) := by decide +kernel
  have h : (x &&& 255).toBitVec.toNat < 256 := by
    simp only [Int32.toBitVec_and, BitVec.toNat_and]
    exact Nat.lt_succ_of_le Nat.and_le_right
  have e : (x &&& 255) = Int32.ofNat (x &&& 255).toBitVec.toNat := by
    apply Int32.toBitVec_inj.mp
    show _ = BitVec.ofNat 32 _
    rw [BitVec.ofNat_toNat]; simp
  rw [e]
  exact t ⟨_, h⟩
theorem own_up (cs : List Int32) (h : ∀ c ∈ cs, ¬ c < 0 ∧ ¬ (255 : Int32) < c) : ∀ c ∈ cs, ¬ c < 0 ∧ ¬ (65535 : Int32) < c := fun c hc => ⟨(h c hc).1, fun q => (h c hc).2 (by rw [Int32.lt_iff_toInt_lt] at q ⊢; have e1 : (65535 : Int32).toInt = 65535 := rfl; have e2 : (255 : Int32).toInt = 255 := rfl; omega)⟩
theorem own_all0 : ∀ c ∈ ([] : List Int32), ¬ c < 0 ∧ ¬ (255 : Int32) < c := fun _ q => nomatch q
theorem own_allS {x : Int32} {cs : List Int32} (q : ¬ x < 0 ∧ ¬ (255 : Int32) < x) (r : ∀ c ∈ cs, ¬ c < 0 ∧ ¬ (255 : Int32) < c) : ∀ c ∈ x :: cs, ¬ c < 0 ∧ ¬ (255 : Int32) < c := fun c z => (List.mem_cons.mp z).elim (fun u => u ▸ q) (r c)

def own_EL : List (String × Nat) := [("java/lang/String", 7), ("com/example/ipomoea/ipomoea/store/JobKey", 51)]
theorem own_mem : (("java/lang/String", 7) : String × Nat) ∈ own_EL := List.mem_cons_self
theorem own_mem2 : (("com/example/ipomoea/ipomoea/store/JobKey", 51) : String × Nat) ∈ own_EL := List.mem_cons_of_mem _ List.mem_cons_self
theorem own_bb (x : Int32) : x.toInt8.toInt32.toInt8.toInt32 = x.toInt8.toInt32 := by simp
def own_pick (j x0 x1 x2 : Int32) : Int32 := if j = 0 then x0 else if j = 1 then x1 else x2
def own_exp (xi lc y0 y1 y2 z0 z1 z2 : Int32) : Int32 := if xi < lc then own_pick xi y0 y1 y2 else if xi = lc then 47 else own_pick ((xi - lc) - (1 : Int32)) z0 z1 z2
def own_vs (ml x0 x1 x2 : Int32) : List Value := if ml = 0 then [] else if ml = 1 then [.int x0.toInt8.toInt32] else if ml = 2 then [.int x0.toInt8.toInt32, .int x1.toInt8.toInt32] else [.int x0.toInt8.toInt32, .int x1.toInt8.toInt32, .int x2.toInt8.toInt32]
def own_4 (x : Int32) : Prop := x = 0 ∨ x = 1 ∨ x = 2 ∨ x = 3
theorem own_vsl {ml x0 x1 x2 : Int32} : (own_vs ml x0 x1 x2).length ≤ 3 := by
  unfold own_vs; split; exact Nat.le_of_ble_eq_true rfl; split; exact Nat.le_of_ble_eq_true rfl; split <;> exact Nat.le_of_ble_eq_true rfl
theorem own_and3 (x : Int32) : own_4 (x &&& (3 : Int32)) := by
  have c := c_and x 3 (by decide)
  have e3 : (3 : Int32).toInt = 3 := rfl
  have h : (x &&& (3 : Int32)).toInt = 0 ∨ (x &&& (3 : Int32)).toInt = 1 ∨ (x &&& (3 : Int32)).toInt = 2 ∨ (x &&& (3 : Int32)).toInt = 3 := by omega
  rcases h with h | h | h | h
  · exact Or.inl (Int32.toInt_inj.mp h)
  · exact Or.inr (Or.inl (Int32.toInt_inj.mp h))
  · exact Or.inr (Or.inr (Or.inl (Int32.toInt_inj.mp h)))
  · exact Or.inr (Or.inr (Or.inr (Int32.toInt_inj.mp h)))
def own_rg (c : Int32) : Prop := ¬ c < 0 ∧ ¬ (255 : Int32) < c
theorem own_fin {P : Int32 → Prop} (h : ∀ k : Fin 256, P (Int32.ofNat k.val)) {c : Int32} (r : own_rg c) : P c := by
  obtain ⟨r1, r2⟩ := r
  rw [Int32.lt_iff_toInt_lt] at r1 r2
  have e0 : (0 : Int32).toInt = 0 := rfl
  have e1 : (255 : Int32).toInt = 255 := rfl
  have e : c = Int32.ofNat c.toInt.toNat := by
    apply Int32.toInt_inj.mp
    rw [Int32.toInt_ofNat_small (by omega)]; omega
  rw [e]; exact h ⟨c.toInt.toNat, by omega⟩
theorem own_back {c : Int32} (r : own_rg c) : nar .char (((c.toInt8.toInt32) &&& (255 : Int32)).toUInt32.toUInt16.toUInt32.toInt32) = c := own_fin (P := fun c => nar .char (((c.toInt8.toInt32) &&& (255 : Int32)).toUInt32.toUInt16.toUInt32.toInt32) = c) (by decide +kernel) r
theorem own_narc {c : Int32} (r : own_rg c) : nar .char c = c := own_fin (P := fun c => nar .char c = c) (by decide +kernel) r

theorem ef_rmCoder (m : MethodId) (x0 : Nat) : entryFrame m #[(.ref x0)] 1 = mkF m 0 #[.val (.ref x0)] [] := by first | (simp [entryFrame, mkF, argsToLocals, Value.category]; done) | rfl
theorem d13_0 : decode jdk_42_method_152_code 0 = .ok (.getstatic 38, 3) := by decide +kernel
theorem d13_3 : decode jdk_42_method_152_code 3 = .ok (.ifCond .eq 10, 3) := by decide +kernel
theorem d13_6 : decode jdk_42_method_152_code 6 = .ok (.aload_n 0, 1) := by decide +kernel
theorem d13_7 : decode jdk_42_method_152_code 7 = .ok (.getfield 15, 3) := by decide +kernel
theorem d13_10 : decode jdk_42_method_152_code 10 = .ok (.goto 4, 3) := by decide +kernel
theorem d13_14 : decode jdk_42_method_152_code 14 = .ok (.ireturn, 1) := by decide +kernel
theorem pn_java_lang_String : plainName "java/lang/String" = true := by first | (simp [plainName, overriddenIn]; done) | decide +kernel
def Q_rmCoder (Z : State) (so : Nat) (zc : Int32) (h0 : Heap) (n0 : Nat) (v : Option Value) (h : Heap) (L : List Loc) : Prop := v = some (.int (0 : Int32)) ∧ Fr n0 L ∧ h = h0
set_option maxRecDepth 65536 in
set_option maxHeartbeats 40000000 in
theorem rmCoder (l : Launch) (Z : State) (a0 : Array Value) (hw : ∀ d ∈ tables_1, d.before a0 Z = true) (ws : List Jvm.Cond) (so : Nat) (zc : Int32) (h0 : Heap) (n0 : Nat) (Z0 : n0 ≤ h0.size) (P1 : Fld Z h0 so "java/lang/String" "coder" "B" (.int (0 : Int32))) (OLD : Old Z n0 h0) (P2 : Sta Z Z.heap "java/lang/String" "COMPACT_STRINGS" "Z" (.int zc)) (hzc : ¬ (zc = (0 : Int32))) :
    MetFree l (⟨"java/lang/String", "coder", "()B"⟩ : MethodName) (head1 (Jvm.Cond.code (⟨"java/lang/String", "coder", "()B"⟩ : MethodName) jdk_42_method_152_code 1 (some .byte) :: ws) ({ frames := 0, cells := 0, slots := 0, locals := 0 } : Room)) (fun a U => a = #[(.ref so)] ∧ Z.Warmed39 U.vm ∧ U.heap = h0) (fun _ _ _ _ _ => True) (fun _ U o U' => ∃ v L, o = .returned v ∧ Q_rmCoder Z so zc h0 n0 v U'.heap L ∧ FrameEnd U o U' L ({ frames := 0, cells := 0, slots := 0, locals := 0 } : Room).cells ({ frames := 0, cells := 0, slots := 0, locals := 0 } : Room).slots) := by
  refine MetFree.of_bodySF (plainFor_of_name pn_java_lang_String) hisR ?_
  intro p e s m args below meth c s₁ Bd hml0 hP hK
  obtain ⟨rfl, hZ, hh⟩ := hP
  have hx := Bd.exec
  have hby := Bd.bytes
  have hml : c.maxLocals = 1 := hml0
  have hown : s.vm.findClass "java/lang/String" = some m.cls := findClass_of_methodNamed Bd.named
  have hnm := (name_of_methodNamed Bd.named Bd.method).1
  have X0 : Stand p l e ({ frames := 0, cells := 0, slots := 0, locals := 0 } : Room) s m #[(.ref so)] below meth c s₁ [] 0 0 := Stand.of_body Bd
  have e0 : s₁.heap = h0 := by rw [← hh, Bd.state]; rfl
  have N0 := Fr.nil n0
  have pre0 : ∀ t, Steps p.tables e below (s₁.setTop (mkF m 0 #[.val (.ref so)] [])) t → Steps p.tables e below (s₁.setTop (entryFrame m #[(.ref so)] 1)) t := fun t k => castTop (ef_rmCoder m so) k
  have oz := OLD.1
  have lt_so : so < h0.size := P1.lt
  refine own_go (B := s₁.setTop (mkF m 0 #[.val (.ref so)] [])) pre0 ?_
  show ∃ t o, Steps p.tables e below (s₁.setTop (mkF m 0 #[.val (.ref so)] [])) t ∧ _
  obtain ⟨T3, X3, e3, st3⟩ := getS2 X0 hx hZ hown (host := "") (Or.inl (hw _ (List.mem_of_getElem? (i := 87) rfl))) Via.refl e0 (Sta.ext OLD.2 P2) (g := (mkF m 0 #[.val (.ref so)] [])) rfl (hb hby d13_0)
  refine own_go st3 ?_
  show ∃ t o, Steps p.tables e below (T3.setTop (mkF m 3 #[.val (.ref so)] [(.int zc)])) t ∧ _
  refine own_go (fun _ => XS.ifNo X3.here hx rfl (hb hby d13_3) rfl ((if0 _ _).trans (feq hzc).1)) ?_
  refine own_go (fun _ => XS.aloadN X3.here hx rfl (hb hby d13_6) rfl rfl) ?_
  obtain ⟨T4, X4, e4, st4⟩ := getF X3 hx hZ hown (host := "") (Or.inl (hw _ (List.mem_of_getElem? (i := 25) rfl))) Via.refl e3 P1 (g := (mkF m 7 #[.val (.ref so)] [(.ref so)])) rfl rfl (hb hby d13_7)
  refine own_go st4 ?_
  show ∃ t o, Steps p.tables e below (T4.setTop (mkF m 10 #[.val (.ref so)] [(.int (0 : Int32))])) t ∧ _
  refine own_go (fun _ => XS.goto X4.here hx rfl (pc0 := 10) (pc' := 14) rfl (hb hby d13_10) (by decide) (by decide)) ?_
  show ∃ t o, Steps p.tables e below (T4.setTop (mkF m 14 #[.val (.ref so)] [(.int (0 : Int32))])) t ∧ _
  obtain ⟨fs, hr, hrun, hended, hW, hsame⟩ := X4.leave (v := some (.int (0 : Int32))) (fun h => by rw [Bd.returns] at h; cases h)
  refine ⟨_, _, ?_, hrun, hended, _, _, rfl, ?_, ⟨_, rfl⟩, hW, hsame.mono (by decide) (by decide)⟩
  · exact retN X4 hx (t := .byte) Bd.returns (by simp) (hb hby d13_14) hr
  · show Q_rmCoder Z _ _ h0 n0 _ T4.heap _
    rw [e4]
    exact ⟨rfl, N0, rfl⟩
theorem ef_rmLat (m : MethodId) (x0 : Nat) : entryFrame m #[(.ref x0)] 1 = mkF m 0 #[.val (.ref x0)] [] := by first | (simp [entryFrame, mkF, argsToLocals, Value.category]; done) | rfl
theorem d31_0 : decode jdk_42_method_154_code 0 = .ok (.getstatic 38, 3) := by decide +kernel
theorem d31_3 : decode jdk_42_method_154_code 3 = .ok (.ifCond .eq 14, 3) := by decide +kernel
theorem d31_6 : decode jdk_42_method_154_code 6 = .ok (.aload_n 0, 1) := by decide +kernel
theorem d31_7 : decode jdk_42_method_154_code 7 = .ok (.getfield 15, 3) := by decide +kernel
theorem d31_10 : decode jdk_42_method_154_code 10 = .ok (.ifCond .ne 7, 3) := by decide +kernel
theorem d31_13 : decode jdk_42_method_154_code 13 = .ok (.iconst 1, 1) := by decide +kernel
theorem d31_14 : decode jdk_42_method_154_code 14 = .ok (.goto 4, 3) := by decide +kernel
theorem d31_18 : decode jdk_42_method_154_code 18 = .ok (.ireturn, 1) := by decide +kernel
def Q_rmLat (Z : State) (so : Nat) (zc : Int32) (h0 : Heap) (n0 : Nat) (v : Option Value) (h : Heap) (L : List Loc) : Prop := v = some (.int (1 : Int32)) ∧ Fr n0 L ∧ h = h0
set_option maxRecDepth 65536 in
set_option maxHeartbeats 40000000 in
theorem rmLat (l : Launch) (Z : State) (a0 : Array Value) (hw : ∀ d ∈ tables_1, d.before a0 Z = true) (ws : List Jvm.Cond) (so : Nat) (zc : Int32) (h0 : Heap) (n0 : Nat) (Z0 : n0 ≤ h0.size) (P1 : Fld Z h0 so "java/lang/String" "coder" "B" (.int (0 : Int32))) (OLD : Old Z n0 h0) (P2 : Sta Z Z.heap "java/lang/String" "COMPACT_STRINGS" "Z" (.int zc)) (hzc : ¬ (zc = (0 : Int32))) :
    MetFree l (⟨"java/lang/String", "isLatin1", "()Z"⟩ : MethodName) (head1 (Jvm.Cond.code (⟨"java/lang/String", "isLatin1", "()Z"⟩ : MethodName) jdk_42_method_154_code 1 (some .boolean) :: ws) ({ frames := 0, cells := 0, slots := 0, locals := 0 } : Room)) (fun a U => a = #[(.ref so)] ∧ Z.Warmed39 U.vm ∧ U.heap = h0) (fun _ _ _ _ _ => True) (fun _ U o U' => ∃ v L, o = .returned v ∧ Q_rmLat Z so zc h0 n0 v U'.heap L ∧ FrameEnd U o U' L ({ frames := 0, cells := 0, slots := 0, locals := 0 } : Room).cells ({ frames := 0, cells := 0, slots := 0, locals := 0 } : Room).slots) := by
  refine MetFree.of_bodySF (plainFor_of_name pn_java_lang_String) hisR ?_
  intro p e s m args below meth c s₁ Bd hml0 hP hK
  obtain ⟨rfl, hZ, hh⟩ := hP
  have hx := Bd.exec
  have hby := Bd.bytes
  have hml : c.maxLocals = 1 := hml0
  have hown : s.vm.findClass "java/lang/String" = some m.cls := findClass_of_methodNamed Bd.named
  have hnm := (name_of_methodNamed Bd.named Bd.method).1
  have X0 : Stand p l e ({ frames := 0, cells := 0, slots := 0, locals := 0 } : Room) s m #[(.ref so)] below meth c s₁ [] 0 0 := Stand.of_body Bd
  have e0 : s₁.heap = h0 := by rw [← hh, Bd.state]; rfl
  have N0 := Fr.nil n0
  have pre0 : ∀ t, Steps p.tables e below (s₁.setTop (mkF m 0 #[.val (.ref so)] [])) t → Steps p.tables e below (s₁.setTop (entryFrame m #[(.ref so)] 1)) t := fun t k => castTop (ef_rmLat m so) k
  have oz := OLD.1
  have lt_so : so < h0.size := P1.lt
  refine own_go (B := s₁.setTop (mkF m 0 #[.val (.ref so)] [])) pre0 ?_
  show ∃ t o, Steps p.tables e below (s₁.setTop (mkF m 0 #[.val (.ref so)] [])) t ∧ _
  obtain ⟨T3, X3, e3, st3⟩ := getS2 X0 hx hZ hown (host := "") (Or.inl (hw _ (List.mem_of_getElem? (i := 87) rfl))) Via.refl e0 (Sta.ext OLD.2 P2) (g := (mkF m 0 #[.val (.ref so)] [])) rfl (hb hby d31_0)
  refine own_go st3 ?_
  show ∃ t o, Steps p.tables e below (T3.setTop (mkF m 3 #[.val (.ref so)] [(.int zc)])) t ∧ _
  refine own_go (fun _ => XS.ifNo X3.here hx rfl (hb hby d31_3) rfl ((if0 _ _).trans (feq hzc).1)) ?_
  refine own_go (fun _ => XS.aloadN X3.here hx rfl (hb hby d31_6) rfl rfl) ?_
  obtain ⟨T4, X4, e4, st4⟩ := getF X3 hx hZ hown (host := "") (Or.inl (hw _ (List.mem_of_getElem? (i := 25) rfl))) Via.refl e3 P1 (g := (mkF m 7 #[.val (.ref so)] [(.ref so)])) rfl rfl (hb hby d31_7)
  refine own_go st4 ?_
  show ∃ t o, Steps p.tables e below (T4.setTop (mkF m 10 #[.val (.ref so)] [(.int (0 : Int32))])) t ∧ _
  refine own_go (fun _ => XS.ifNo X4.here hx rfl (hb hby d31_10) rfl ((if0 _ _).trans (teq (by decide : (0 : Int32) = (0 : Int32))).2)) ?_
  refine own_go (fun _ => XS.iconst X4.here hx rfl (hb hby d31_13)) ?_
  refine own_go (fun _ => XS.goto X4.here hx rfl (pc0 := 14) (pc' := 18) rfl (hb hby d31_14) (by decide) (by decide)) ?_
  show ∃ t o, Steps p.tables e below (T4.setTop (mkF m 18 #[.val (.ref so)] [(.int (1 : Int32))])) t ∧ _
  obtain ⟨fs, hr, hrun, hended, hW, hsame⟩ := X4.leave (v := some (.int (1 : Int32))) (fun h => by rw [Bd.returns] at h; cases h)
  refine ⟨_, _, ?_, hrun, hended, _, _, rfl, ?_, ⟨_, rfl⟩, hW, hsame.mono (by decide) (by decide)⟩
  · exact retN X4 hx (t := .boolean) Bd.returns (by simp) (hb hby d31_18) hr
  · show Q_rmLat Z _ _ h0 n0 _ T4.heap _
    rw [e4]
    exact ⟨rfl, N0, rfl⟩
theorem ef_rmPcN (m : MethodId) (x0 : Int32) (x1 : Int32) : entryFrame m #[(.int x0), (.int x1), .null] 3 = mkF m 0 #[.val (.int x0), .val (.int x1), .val .null] [] := by first | (simp [entryFrame, mkF, argsToLocals, Value.category]; done) | rfl
theorem d34_0 : decode jdk_41_method_11_code 0 = .ok (.iload_n 0, 1) := by decide +kernel
theorem d34_1 : decode jdk_41_method_11_code 1 = .ok (.ifCond .lt 8, 3) := by decide +kernel
theorem d34_4 : decode jdk_41_method_11_code 4 = .ok (.iload_n 0, 1) := by decide +kernel
theorem d34_5 : decode jdk_41_method_11_code 5 = .ok (.iload_n 1, 1) := by decide +kernel
theorem d34_6 : decode jdk_41_method_11_code 6 = .ok (.if_icmp .lt 10, 3) := by decide +kernel
theorem d34_16 : decode jdk_41_method_11_code 16 = .ok (.iload_n 0, 1) := by decide +kernel
theorem d34_17 : decode jdk_41_method_11_code 17 = .ok (.ireturn, 1) := by decide +kernel
theorem pn_jdk_internal_util_Preconditions : plainName "jdk/internal/util/Preconditions" = true := by first | (simp [plainName, overriddenIn]; done) | decide +kernel
def Q_rmPcN (Z : State) (xi : Int32) (xn : Int32) (h0 : Heap) (n0 : Nat) (v : Option Value) (h : Heap) (L : List Loc) : Prop := v = some (.int xi) ∧ Fr n0 L ∧ h = h0
set_option maxRecDepth 65536 in
set_option maxHeartbeats 40000000 in
theorem rmPcN (l : Launch) (Z : State) (a0 : Array Value) (hw : ∀ d ∈ tables_1, d.before a0 Z = true) (ws : List Jvm.Cond) (xi : Int32) (xn : Int32) (h0 : Heap) (n0 : Nat) (Z0 : n0 ≤ h0.size) (OLD : Old Z n0 h0) (q0 : ¬ (xi < (0 : Int32))) (q1 : xi < xn) :
    MetFree l (⟨"jdk/internal/util/Preconditions", "checkIndex", "(IILjava/util/function/BiFunction;)I"⟩ : MethodName) (head1 (Jvm.Cond.code (⟨"jdk/internal/util/Preconditions", "checkIndex", "(IILjava/util/function/BiFunction;)I"⟩ : MethodName) jdk_41_method_11_code 3 (some .int) :: ws) ({ frames := 0, cells := 0, slots := 0, locals := 0 } : Room)) (fun a U => a = #[(.int xi), (.int xn), .null] ∧ Z.Warmed39 U.vm ∧ U.heap = h0) (fun _ _ _ _ _ => True) (fun _ U o U' => ∃ v L, o = .returned v ∧ Q_rmPcN Z xi xn h0 n0 v U'.heap L ∧ FrameEnd U o U' L ({ frames := 0, cells := 0, slots := 0, locals := 0 } : Room).cells ({ frames := 0, cells := 0, slots := 0, locals := 0 } : Room).slots) := by
  refine MetFree.of_bodySF (plainFor_of_name pn_jdk_internal_util_Preconditions) hisR ?_
  intro p e s m args below meth c s₁ Bd hml0 hP hK
  obtain ⟨rfl, hZ, hh⟩ := hP
  have hx := Bd.exec
  have hby := Bd.bytes
  have hml : c.maxLocals = 3 := hml0
  have hown : s.vm.findClass "jdk/internal/util/Preconditions" = some m.cls := findClass_of_methodNamed Bd.named
  have hnm := (name_of_methodNamed Bd.named Bd.method).1
  have X0 : Stand p l e ({ frames := 0, cells := 0, slots := 0, locals := 0 } : Room) s m #[(.int xi), (.int xn), .null] below meth c s₁ [] 0 0 := Stand.of_body Bd
  have e0 : s₁.heap = h0 := by rw [← hh, Bd.state]; rfl
  have N0 := Fr.nil n0
  have pre0 : ∀ t, Steps p.tables e below (s₁.setTop (mkF m 0 #[.val (.int xi), .val (.int xn), .val .null] [])) t → Steps p.tables e below (s₁.setTop (entryFrame m #[(.int xi), (.int xn), .null] 3)) t := fun t k => castTop (ef_rmPcN m xi xn) k
  have oz := OLD.1
  refine own_go (B := s₁.setTop (mkF m 0 #[.val (.int xi), .val (.int xn), .val .null] [])) pre0 ?_
  show ∃ t o, Steps p.tables e below (s₁.setTop (mkF m 0 #[.val (.int xi), .val (.int xn), .val .null] [])) t ∧ _
  refine own_go (fun _ => XS.iloadN X0.here hx rfl (hb hby d34_0) rfl) ?_
  show ∃ t o, Steps p.tables e below (s₁.setTop (mkF m 1 #[.val (.int xi), .val (.int xn), .val .null] [(.int xi)])) t ∧ _
  refine own_go (fun _ => XS.ifNo X0.here hx rfl (hb hby d34_1) rfl ((if0 _ _).trans (flt q0).1)) ?_
  refine own_go (fun _ => XS.iloadN X0.here hx rfl (hb hby d34_4) rfl) ?_
  refine own_go (fun _ => XS.iloadN X0.here hx rfl (hb hby d34_5) rfl) ?_
  show ∃ t o, Steps p.tables e below (s₁.setTop (mkF m 6 #[.val (.int xi), .val (.int xn), .val .null] [(.int xn), (.int xi)])) t ∧ _
  refine own_go (fun _ => XS.icmpYes X0.here hx rfl (pc0 := 6) (pc' := 16) rfl (hb hby d34_6) rfl (tlt q1).1 (by decide) (by decide)) ?_
  refine own_go (fun _ => XS.iloadN X0.here hx rfl (hb hby d34_16) rfl) ?_
  show ∃ t o, Steps p.tables e below (s₁.setTop (mkF m 17 #[.val (.int xi), .val (.int xn), .val .null] [(.int xi)])) t ∧ _
  obtain ⟨fs, hr, hrun, hended, hW, hsame⟩ := X0.leave (v := some (.int xi)) (fun h => by rw [Bd.returns] at h; cases h)
  refine ⟨_, _, ?_, hrun, hended, _, _, rfl, ?_, ⟨_, rfl⟩, hW, hsame.mono (by decide) (by decide)⟩
  · exact retI X0 hx Bd.returns (hb hby d34_17) hr
  · show Q_rmPcN Z _ _ h0 n0 _ s₁.heap _
    rw [e0]
    exact ⟨rfl, N0, rfl⟩
theorem ef_rmPcR (m : MethodId) (x0 : Int32) (x1 : Int32) (x2 : Nat) : entryFrame m #[(.int x0), (.int x1), (.ref x2)] 3 = mkF m 0 #[.val (.int x0), .val (.int x1), .val (.ref x2)] [] := by first | (simp [entryFrame, mkF, argsToLocals, Value.category]; done) | rfl
def Q_rmPcR (Z : State) (xi : Int32) (xn : Int32) (ga : Nat) (h0 : Heap) (n0 : Nat) (v : Option Value) (h : Heap) (L : List Loc) : Prop := v = some (.int xi) ∧ Fr n0 L ∧ h = h0
set_option maxRecDepth 65536 in
set_option maxHeartbeats 40000000 in
theorem rmPcR (l : Launch) (Z : State) (a0 : Array Value) (hw : ∀ d ∈ tables_1, d.before a0 Z = true) (ws : List Jvm.Cond) (xi : Int32) (xn : Int32) (ga : Nat) (h0 : Heap) (n0 : Nat) (Z0 : n0 ≤ h0.size) (OLD : Old Z n0 h0) (q0 : ¬ (xi < (0 : Int32))) (q1 : xi < xn) :
    MetFree l (⟨"jdk/internal/util/Preconditions", "checkIndex", "(IILjava/util/function/BiFunction;)I"⟩ : MethodName) (head1 (Jvm.Cond.code (⟨"jdk/internal/util/Preconditions", "checkIndex", "(IILjava/util/function/BiFunction;)I"⟩ : MethodName) jdk_41_method_11_code 3 (some .int) :: ws) ({ frames := 0, cells := 0, slots := 0, locals := 0 } : Room)) (fun a U => a = #[(.int xi), (.int xn), (.ref ga)] ∧ Z.Warmed39 U.vm ∧ U.heap = h0) (fun _ _ _ _ _ => True) (fun _ U o U' => ∃ v L, o = .returned v ∧ Q_rmPcR Z xi xn ga h0 n0 v U'.heap L ∧ FrameEnd U o U' L ({ frames := 0, cells := 0, slots := 0, locals := 0 } : Room).cells ({ frames := 0, cells := 0, slots := 0, locals := 0 } : Room).slots) := by
  refine MetFree.of_bodySF (plainFor_of_name pn_jdk_internal_util_Preconditions) hisR ?_
  intro p e s m args below meth c s₁ Bd hml0 hP hK
  obtain ⟨rfl, hZ, hh⟩ := hP
  have hx := Bd.exec
  have hby := Bd.bytes
  have hml : c.maxLocals = 3 := hml0
  have hown : s.vm.findClass "jdk/internal/util/Preconditions" = some m.cls := findClass_of_methodNamed Bd.named
  have hnm := (name_of_methodNamed Bd.named Bd.method).1
  have X0 : Stand p l e ({ frames := 0, cells := 0, slots := 0, locals := 0 } : Room) s m #[(.int xi), (.int xn), (.ref ga)] below meth c s₁ [] 0 0 := Stand.of_body Bd
  have e0 : s₁.heap = h0 := by rw [← hh, Bd.state]; rfl
  have N0 := Fr.nil n0
  have pre0 : ∀ t, Steps p.tables e below (s₁.setTop (mkF m 0 #[.val (.int xi), .val (.int xn), .val (.ref ga)] [])) t → Steps p.tables e below (s₁.setTop (entryFrame m #[(.int xi), (.int xn), (.ref ga)] 3)) t := fun t k => castTop (ef_rmPcR m xi xn ga) k
  have oz := OLD.1
  refine own_go (B := s₁.setTop (mkF m 0 #[.val (.int xi), .val (.int xn), .val (.ref ga)] [])) pre0 ?_
  show ∃ t o, Steps p.tables e below (s₁.setTop (mkF m 0 #[.val (.int xi), .val (.int xn), .val (.ref ga)] [])) t ∧ _
  refine own_go (fun _ => XS.iloadN X0.here hx rfl (hb hby d34_0) rfl) ?_
  show ∃ t o, Steps p.tables e below (s₁.setTop (mkF m 1 #[.val (.int xi), .val (.int xn), .val (.ref ga)] [(.int xi)])) t ∧ _
  refine own_go (fun _ => XS.ifNo X0.here hx rfl (hb hby d34_1) rfl ((if0 _ _).trans (flt q0).1)) ?_
  refine own_go (fun _ => XS.iloadN X0.here hx rfl (hb hby d34_4) rfl) ?_
  refine own_go (fun _ => XS.iloadN X0.here hx rfl (hb hby d34_5) rfl) ?_
  show ∃ t o, Steps p.tables e below (s₁.setTop (mkF m 6 #[.val (.int xi), .val (.int xn), .val (.ref ga)] [(.int xn), (.int xi)])) t ∧ _
  refine own_go (fun _ => XS.icmpYes X0.here hx rfl (pc0 := 6) (pc' := 16) rfl (hb hby d34_6) rfl (tlt q1).1 (by decide) (by decide)) ?_
  refine own_go (fun _ => XS.iloadN X0.here hx rfl (hb hby d34_16) rfl) ?_
  show ∃ t o, Steps p.tables e below (s₁.setTop (mkF m 17 #[.val (.int xi), .val (.int xn), .val (.ref ga)] [(.int xi)])) t ∧ _
  obtain ⟨fs, hr, hrun, hended, hW, hsame⟩ := X0.leave (v := some (.int xi)) (fun h => by rw [Bd.returns] at h; cases h)
  refine ⟨_, _, ?_, hrun, hended, _, _, rfl, ?_, ⟨_, rfl⟩, hW, hsame.mono (by decide) (by decide)⟩
  · exact retI X0 hx Bd.returns (hb hby d34_17) hr
  · show Q_rmPcR Z _ _ _ h0 n0 _ s₁.heap _
    rw [e0]
    exact ⟨rfl, N0, rfl⟩
theorem ef_rmCi (m : MethodId) (x0 : Int32) (x1 : Int32) : entryFrame m #[(.int x0), (.int x1)] 2 = mkF m 0 #[.val (.int x0), .val (.int x1)] [] := by first | (simp [entryFrame, mkF, argsToLocals, Value.category]; done) | rfl
theorem d33_0 : decode jdk_42_method_155_code 0 = .ok (.iload_n 0, 1) := by decide +kernel
theorem d33_1 : decode jdk_42_method_155_code 1 = .ok (.iload_n 1, 1) := by decide +kernel
theorem d33_2 : decode jdk_42_method_155_code 2 = .ok (.getstatic 1053, 3) := by decide +kernel
theorem d33_5 : decode jdk_42_method_155_code 5 = .ok (.invokestatic 1059, 3) := by decide +kernel
theorem pd__28IILjava_2futil_2ffunction_2fBiFunction_3b_29I : parseMethodDescriptor "(IILjava/util/function/BiFunction;)I" = some ⟨[.int, .int, (.object "java/util/function/BiFunction")], some .int⟩ := by decide +kernel
theorem d33_8 : decode jdk_42_method_155_code 8 = .ok (.pop, 1) := by decide +kernel
theorem d33_9 : decode jdk_42_method_155_code 9 = .ok (.return_, 1) := by decide +kernel
def Q_rmCi (Z : State) (xi : Int32) (xn : Int32) (gv : Value) (h0 : Heap) (n0 : Nat) (v : Option Value) (h : Heap) (L : List Loc) : Prop := v = none ∧ Fr n0 L ∧ h = h0
set_option maxRecDepth 65536 in
set_option maxHeartbeats 40000000 in
theorem rmCi (l : Launch) (Z : State) (a0 : Array Value) (hw : ∀ d ∈ tables_1, d.before a0 Z = true) (ws : List Jvm.Cond) (xi : Int32) (xn : Int32) (gv : Value) (h0 : Heap) (n0 : Nat) (Z0 : n0 ≤ h0.size) (OLD : Old Z n0 h0) (P1 : Sta Z Z.heap "jdk/internal/util/Preconditions" "SIOOBE_FORMATTER" "Ljava/util/function/BiFunction;" gv) (hgv : gv.isRef = true) (q0 : ¬ (xi < (0 : Int32))) (q1 : xi < xn) :
    MetFree l (⟨"java/lang/String", "checkIndex", "(II)V"⟩ : MethodName) (head1 (Jvm.Cond.code (⟨"java/lang/String", "checkIndex", "(II)V"⟩ : MethodName) jdk_42_method_155_code 2 none :: ws) ({ frames := 1, cells := 0, slots := 0, locals := 14 } : Room)) (fun a U => a = #[(.int xi), (.int xn)] ∧ Z.Warmed39 U.vm ∧ U.heap = h0) (fun _ _ _ _ _ => True) (fun _ U o U' => ∃ v L, o = .returned v ∧ Q_rmCi Z xi xn gv h0 n0 v U'.heap L ∧ FrameEnd U o U' L ({ frames := 1, cells := 0, slots := 0, locals := 14 } : Room).cells ({ frames := 1, cells := 0, slots := 0, locals := 14 } : Room).slots) := by
  refine MetFree.of_bodySF (plainFor_of_name pn_java_lang_String) hisR ?_
  intro p e s m args below meth c s₁ Bd hml0 hP hK
  obtain ⟨rfl, hZ, hh⟩ := hP
  have hx := Bd.exec
  have hby := Bd.bytes
  have hml : c.maxLocals = 2 := hml0
  have hown : s.vm.findClass "java/lang/String" = some m.cls := findClass_of_methodNamed Bd.named
  have hnm := (name_of_methodNamed Bd.named Bd.method).1
  have X0 : Stand p l e ({ frames := 1, cells := 0, slots := 0, locals := 14 } : Room) s m #[(.int xi), (.int xn)] below meth c s₁ [] 0 0 := Stand.of_body Bd
  have e0 : s₁.heap = h0 := by rw [← hh, Bd.state]; rfl
  have N0 := Fr.nil n0
  have pre0 : ∀ t, Steps p.tables e below (s₁.setTop (mkF m 0 #[.val (.int xi), .val (.int xn)] [])) t → Steps p.tables e below (s₁.setTop (entryFrame m #[(.int xi), (.int xn)] 2)) t := fun t k => castTop (ef_rmCi m xi xn) k
  have oz := OLD.1
  refine own_go (B := s₁.setTop (mkF m 0 #[.val (.int xi), .val (.int xn)] [])) pre0 ?_
  show ∃ t o, Steps p.tables e below (s₁.setTop (mkF m 0 #[.val (.int xi), .val (.int xn)] [])) t ∧ _
  rcases ref_cases hgv with hg0 | ⟨ga, hg0⟩
  · subst hg0
    show ∃ t o, Steps p.tables e below (s₁.setTop (mkF m 0 #[.val (.int xi), .val (.int xn)] [])) t ∧ _
    refine own_go (fun _ => XS.iloadN X0.here hx rfl (hb hby d33_0) rfl) ?_
    refine own_go (fun _ => XS.iloadN X0.here hx rfl (hb hby d33_1) rfl) ?_
    obtain ⟨T2, X2, e2, st2⟩ := getS2 X0 hx hZ hown (host := "") (Or.inl (hw _ (List.mem_of_getElem? (i := 182) rfl))) Via.refl e0 (Sta.ext OLD.2 P1) (g := (mkF m 2 #[.val (.int xi), .val (.int xn)] [(.int xn), (.int xi)])) rfl (hb hby d33_2)
    refine own_go st2 ?_
    show ∃ t o, Steps p.tables e below (T2.setTop (mkF m 5 #[.val (.int xi), .val (.int xn)] [.null, (.int xn), (.int xi)])) t ∧ _
    obtain ⟨_, _, ⟨T3, L3, k3, n3⟩, -, X3, ⟨Lc3, hQ3, l3, y3, z3⟩, st3⟩ := Jvm.LawKit.callS X2 hx (y := (⟨"jdk/internal/util/Preconditions", "checkIndex", "(IILjava/util/function/BiFunction;)I"⟩ : MethodName)) hown (mvT hZ (hw _ (List.mem_of_getElem? (i := 184) rfl))) (mvT hZ (hw _ (List.mem_of_getElem? (i := 185) rfl))) (mvT hZ (hw _ (List.mem_of_getElem? (i := 183) rfl))) (mvT hZ (hw _ (List.mem_of_getElem? (i := 186) rfl))) (by decide) (backOf (W := 0) (rmPcN l Z a0 hw [] xi xn h0 n0 Z0 OLD q0 q1) hZ (hw _ (List.mem_of_getElem? (i := 186) rfl)) (hw _ (List.mem_of_getElem? (i := 183) rfl)) (by decide) (by decide)) (g := (mkF m 5 #[.val (.int xi), .val (.int xn)] [.null, (.int xn), (.int xi)])) rfl (by rw [hml]; rfl) (argsL := [(.int xi), (.int xn), .null]) (rest := []) (lenOf pd__28IILjava_2futil_2ffunction_2fBiFunction_3b_29I rfl) rfl (by show 2 * 0 + _ ≤ _; exact Nat.le_of_eq rfl) (hb hby d33_5) (fun _ _ => ⟨rfl, e2, (by decide : 0 + 0 ≤ _), (by decide : 0 + 0 ≤ _)⟩)
    dsimp only [Pt.U, Pt.locs, Pt.cells, Pt.slots] at X3 l3 y3 z3 st3 hQ3
    rw [l3, y3, z3] at X3
    obtain ⟨rfl, Nq3, e3⟩ := hQ3
    have N3 := Fr.app N0 Nq3
    refine own_go st3 ?_
    refine own_go (fun _ => XS.pop X3.here hx rfl (hb hby d33_8) rfl rfl) ?_
    show ∃ t o, Steps p.tables e below (T3.setTop (mkF m 9 #[.val (.int xi), .val (.int xn)] [])) t ∧ _
    obtain ⟨fs, hr, hrun, hended, hW, hsame⟩ := X3.leave (v := none) (fun _ => rfl)
    refine ⟨_, _, ?_, hrun, hended, _, _, rfl, ?_, ⟨_, rfl⟩, hW, hsame.mono (by decide) (by decide)⟩
    · exact X3.returnOut hx Bd.returns (hb hby d33_9) hr
    · show Q_rmCi Z _ _ _ h0 n0 _ T3.heap _
      rw [e3]
      exact ⟨rfl, N3, rfl⟩
  · subst hg0
    show ∃ t o, Steps p.tables e below (s₁.setTop (mkF m 0 #[.val (.int xi), .val (.int xn)] [])) t ∧ _
    refine own_go (fun _ => XS.iloadN X0.here hx rfl (hb hby d33_0) rfl) ?_
    refine own_go (fun _ => XS.iloadN X0.here hx rfl (hb hby d33_1) rfl) ?_
    obtain ⟨T4, X4, e4, st4⟩ := getS2 X0 hx hZ hown (host := "") (Or.inl (hw _ (List.mem_of_getElem? (i := 182) rfl))) Via.refl e0 (Sta.ext OLD.2 P1) (g := (mkF m 2 #[.val (.int xi), .val (.int xn)] [(.int xn), (.int xi)])) rfl (hb hby d33_2)
    refine own_go st4 ?_
    show ∃ t o, Steps p.tables e below (T4.setTop (mkF m 5 #[.val (.int xi), .val (.int xn)] [(.ref ga), (.int xn), (.int xi)])) t ∧ _
    obtain ⟨_, _, ⟨T5, L5, k5, n5⟩, -, X5, ⟨Lc5, hQ5, l5, y5, z5⟩, st5⟩ := Jvm.LawKit.callS X4 hx (y := (⟨"jdk/internal/util/Preconditions", "checkIndex", "(IILjava/util/function/BiFunction;)I"⟩ : MethodName)) hown (mvT hZ (hw _ (List.mem_of_getElem? (i := 184) rfl))) (mvT hZ (hw _ (List.mem_of_getElem? (i := 185) rfl))) (mvT hZ (hw _ (List.mem_of_getElem? (i := 183) rfl))) (mvT hZ (hw _ (List.mem_of_getElem? (i := 186) rfl))) (by decide) (backOf (W := 0) (rmPcR l Z a0 hw [] xi xn ga h0 n0 Z0 OLD q0 q1) hZ (hw _ (List.mem_of_getElem? (i := 186) rfl)) (hw _ (List.mem_of_getElem? (i := 183) rfl)) (by decide) (by decide)) (g := (mkF m 5 #[.val (.int xi), .val (.int xn)] [(.ref ga), (.int xn), (.int xi)])) rfl (by rw [hml]; rfl) (argsL := [(.int xi), (.int xn), (.ref ga)]) (rest := []) (lenOf pd__28IILjava_2futil_2ffunction_2fBiFunction_3b_29I rfl) rfl (by show 2 * 0 + _ ≤ _; exact Nat.le_of_eq rfl) (hb hby d33_5) (fun _ _ => ⟨rfl, e4, (by decide : 0 + 0 ≤ _), (by decide : 0 + 0 ≤ _)⟩)
    dsimp only [Pt.U, Pt.locs, Pt.cells, Pt.slots] at X5 l5 y5 z5 st5 hQ5
    rw [l5, y5, z5] at X5
    obtain ⟨rfl, Nq5, e5⟩ := hQ5
    have N5 := Fr.app N0 Nq5
    refine own_go st5 ?_
    refine own_go (fun _ => XS.pop X5.here hx rfl (hb hby d33_8) rfl rfl) ?_
    show ∃ t o, Steps p.tables e below (T5.setTop (mkF m 9 #[.val (.int xi), .val (.int xn)] [])) t ∧ _
    obtain ⟨fs, hr, hrun, hended, hW, hsame⟩ := X5.leave (v := none) (fun _ => rfl)
    refine ⟨_, _, ?_, hrun, hended, _, _, rfl, ?_, ⟨_, rfl⟩, hW, hsame.mono (by decide) (by decide)⟩
    · exact X5.returnOut hx Bd.returns (hb hby d33_9) hr
    · show Q_rmCi Z _ _ _ h0 n0 _ T5.heap _
      rw [e5]
      exact ⟨rfl, N5, rfl⟩
theorem ef_rmLenG (m : MethodId) (x0 : Nat) : entryFrame m #[(.ref x0)] 1 = mkF m 0 #[.val (.ref x0)] [] := by first | (simp [entryFrame, mkF, argsToLocals, Value.category]; done) | rfl
theorem d12_0 : decode jdk_42_method_54_code 0 = .ok (.aload_n 0, 1) := by decide +kernel
theorem d12_1 : decode jdk_42_method_54_code 1 = .ok (.getfield 9, 3) := by decide +kernel
theorem d12_4 : decode jdk_42_method_54_code 4 = .ok (.arraylength, 1) := by decide +kernel
theorem d12_5 : decode jdk_42_method_54_code 5 = .ok (.aload_n 0, 1) := by decide +kernel
theorem d12_6 : decode jdk_42_method_54_code 6 = .ok (.invokevirtual 335, 3) := by decide +kernel
theorem pd__28_29B : parseMethodDescriptor "()B" = some ⟨[], some .byte⟩ := by decide +kernel
theorem d12_9 : decode jdk_42_method_54_code 9 = .ok (.ishr, 1) := by decide +kernel
theorem d12_10 : decode jdk_42_method_54_code 10 = .ok (.ireturn, 1) := by decide +kernel
def Q_rmLenG (Z : State) (so : Nat) (tb : Nat) (kb : ClassId) (nn : Int32) (vs : List Value) (zc : Int32) (h0 : Heap) (n0 : Nat) (v : Option Value) (h : Heap) (L : List Loc) : Prop := v = some (.int nn) ∧ Fr n0 L ∧ h = h0
set_option maxRecDepth 65536 in
set_option maxHeartbeats 40000000 in
theorem rmLenG (l : Launch) (Z : State) (a0 : Array Value) (hw : ∀ d ∈ tables_1, d.before a0 Z = true) (ws : List Jvm.Cond) (so : Nat) (tb : Nat) (kb : ClassId) (nn : Int32) (vs : List Value) (zc : Int32) (h0 : Heap) (n0 : Nat) (Z0 : n0 ≤ h0.size) (P1 : Exa Z h0 so "java/lang/String") (P2 : Fld Z h0 so "java/lang/String" "value" "[B" (.ref tb)) (P3 : Fld Z h0 so "java/lang/String" "coder" "B" (.int (0 : Int32))) (P4 : Arv Z h0 tb kb .byte nn vs (.int (0 : Int32))) (OLD : Old Z n0 h0) (P5 : Sta Z Z.heap "java/lang/String" "COMPACT_STRINGS" "Z" (.int zc)) (hzc : ¬ (zc = (0 : Int32))) :
    MetFree l (⟨"java/lang/String", "length", "()I"⟩ : MethodName) (head1 (Jvm.Cond.code (⟨"java/lang/String", "length", "()I"⟩ : MethodName) jdk_42_method_54_code 1 (some .int) :: ws) ({ frames := 1, cells := 0, slots := 0, locals := 13 } : Room)) (fun a U => a = #[(.ref so)] ∧ Z.Warmed39 U.vm ∧ U.heap = h0) (fun _ _ _ _ _ => True) (fun _ U o U' => ∃ v L, o = .returned v ∧ Q_rmLenG Z so tb kb nn vs zc h0 n0 v U'.heap L ∧ FrameEnd U o U' L ({ frames := 1, cells := 0, slots := 0, locals := 13 } : Room).cells ({ frames := 1, cells := 0, slots := 0, locals := 13 } : Room).slots) := by
  refine MetFree.of_bodySF (plainFor_of_name pn_java_lang_String) hisR ?_
  intro p e s m args below meth c s₁ Bd hml0 hP hK
  obtain ⟨rfl, hZ, hh⟩ := hP
  have hx := Bd.exec
  have hby := Bd.bytes
  have hml : c.maxLocals = 1 := hml0
  have hown : s.vm.findClass "java/lang/String" = some m.cls := findClass_of_methodNamed Bd.named
  have hnm := (name_of_methodNamed Bd.named Bd.method).1
  have X0 : Stand p l e ({ frames := 1, cells := 0, slots := 0, locals := 13 } : Room) s m #[(.ref so)] below meth c s₁ [] 0 0 := Stand.of_body Bd
  have e0 : s₁.heap = h0 := by rw [← hh, Bd.state]; rfl
  have N0 := Fr.nil n0
  have pre0 : ∀ t, Steps p.tables e below (s₁.setTop (mkF m 0 #[.val (.ref so)] [])) t → Steps p.tables e below (s₁.setTop (entryFrame m #[(.ref so)] 1)) t := fun t k => castTop (ef_rmLenG m so) k
  have oz := OLD.1
  have lt_so : so < h0.size := P1.lt
  have lt_tb : tb < h0.size := P4.lt
  refine own_go (B := s₁.setTop (mkF m 0 #[.val (.ref so)] [])) pre0 ?_
  show ∃ t o, Steps p.tables e below (s₁.setTop (mkF m 0 #[.val (.ref so)] [])) t ∧ _
  refine own_go (fun _ => XS.aloadN X0.here hx rfl (hb hby d12_0) rfl rfl) ?_
  obtain ⟨T6, X6, e6, st6⟩ := getF X0 hx hZ hown (host := "") (Or.inl (hw _ (List.mem_of_getElem? (i := 24) rfl))) Via.refl e0 P2 (g := (mkF m 1 #[.val (.ref so)] [(.ref so)])) rfl rfl (hb hby d12_1)
  refine own_go st6 ?_
  obtain ⟨cl7, Ar7, q7, S7, N7, H7, G7⟩ := id P4
  have ln7 : cl7.slots.size.toInt32 = nn := len_of S7 N7
  have al7 := X6.arraylength hx (by rw [e6]; exact Ar7.1) (State.isArrayOf_alike hZ.alike Ar7.2.1) (g := (mkF m 4 #[.val (.ref so)] [(.ref tb)])) rfl rfl (hb hby d12_4)
  rw [ln7] at al7
  refine own_go al7 ?_
  show ∃ t o, Steps p.tables e below (T6.setTop (mkF m 5 #[.val (.ref so)] [(.int nn)])) t ∧ _
  refine own_go (fun _ => XS.aloadN X6.here hx rfl (hb hby d12_5) rfl rfl) ?_
  show ∃ t o, Steps p.tables e below (T6.setTop (mkF m 6 #[.val (.ref so)] [(.ref so), (.int nn)])) t ∧ _
  obtain ⟨cq8, kq8, q8a, q8b, q8c⟩ := isOf hZ e6 P1
  obtain ⟨_, _, ⟨T8, L8, k8, n8⟩, -, X8, ⟨Lc8, hQ8, l8, y8, z8⟩, st8⟩ := X6.virtualBack hx (y := (⟨"java/lang/String", "coder", "()B"⟩ : MethodName)) (z := (⟨"java/lang/String", "coder", "()B"⟩ : MethodName)) hown (mvT hZ (hw _ (List.mem_of_getElem? (i := 82) rfl))) (mvT hZ (hw _ (List.mem_of_getElem? (i := 83) rfl))) (notFace_of_selects (args := #[]) (mvT hZ (hw _ (List.mem_of_getElem? (i := 85) rfl)))) (mvT hZ (hw _ (List.mem_of_getElem? (i := 85) rfl))) (mvT hZ (hw _ (List.mem_of_getElem? (i := 84) rfl))) (by decide) (backOf (W := 1) (rmCoder l Z a0 hw [] so zc h0 n0 Z0 P3 OLD P5 hzc) hZ (hw _ (List.mem_of_getElem? (i := 86) rfl)) (hw _ (List.mem_of_getElem? (i := 6) rfl)) (by decide) (by decide)) q8a q8c (g := (mkF m 6 #[.val (.ref so)] [(.ref so), (.int nn)])) rfl (by rw [hml]; rfl) (Steps.refl _) (argsL := []) (rest := [(.int nn)]) (lenOf pd__28_29B rfl) rfl (by show 2 * 0 + _ ≤ _; exact Nat.le_of_eq rfl) (hb hby d12_6) (fun _ _ => ⟨rfl, e6, (by decide : 0 + 0 ≤ _), (by decide : 0 + 0 ≤ _)⟩)
  dsimp only [Pt.U, Pt.locs, Pt.cells, Pt.slots] at X8 l8 y8 z8 st8 hQ8
  rw [l8, y8, z8] at X8
  obtain ⟨rfl, Nq8, e8⟩ := hQ8
  have N8 := Fr.app N0 Nq8
  refine own_goT st8 ?_
  refine own_go (fun _ => XS.ishr X8.here hx rfl (hb hby d12_9) rfl) ?_
  show ∃ t o, Steps p.tables e below (T8.setTop (mkF m 10 #[.val (.ref so)] [(.int (nn >>> ((0 : Int32) &&& 31)))])) t ∧ _
  obtain ⟨fs, hr, hrun, hended, hW, hsame⟩ := X8.leave (v := some (.int (nn >>> ((0 : Int32) &&& 31)))) (fun h => by rw [Bd.returns] at h; cases h)
  refine ⟨_, _, ?_, hrun, hended, _, _, rfl, ?_, ⟨_, rfl⟩, hW, hsame.mono (by decide) (by decide)⟩
  · exact retI X8 hx Bd.returns (hb hby d12_10) hr
  · show Q_rmLenG Z _ _ _ _ _ _ h0 n0 _ T8.heap _
    rw [e8]
    exact ⟨(congrArg (fun z => some (Value.int z)) (own_shr0 _)), N8, rfl⟩
theorem ef_rmABI (m : MethodId) (x0 : Nat) (x1 : Int32) : entryFrame m #[(.ref x0), (.int x1)] 2 = mkF m 0 #[.val (.ref x0), .val (.int x1)] [] := by first | (simp [entryFrame, mkF, argsToLocals, Value.category]; done) | rfl
theorem d9_0 : decode jdk_68_method_2_code 0 = .ok (.aload_n 0, 1) := by decide +kernel
theorem d9_1 : decode jdk_68_method_2_code 1 = .ok (.invokespecial 3, 3) := by decide +kernel
theorem d9_4 : decode jdk_68_method_2_code 4 = .ok (.getstatic 18, 3) := by decide +kernel
theorem d9_7 : decode jdk_68_method_2_code 7 = .ok (.ifCond .eq 18, 3) := by decide +kernel
theorem d9_10 : decode jdk_68_method_2_code 10 = .ok (.aload_n 0, 1) := by decide +kernel
theorem d9_11 : decode jdk_68_method_2_code 11 = .ok (.iload_n 1, 1) := by decide +kernel
theorem d9_12 : decode jdk_68_method_2_code 12 = .ok (.newarray .byte, 2) := by decide +kernel
theorem d9_14 : decode jdk_68_method_2_code 14 = .ok (.putfield 15, 3) := by decide +kernel
theorem d9_17 : decode jdk_68_method_2_code 17 = .ok (.aload_n 0, 1) := by decide +kernel
theorem d9_18 : decode jdk_68_method_2_code 18 = .ok (.iconst 0, 1) := by decide +kernel
theorem d9_19 : decode jdk_68_method_2_code 19 = .ok (.putfield 22, 3) := by decide +kernel
theorem d9_22 : decode jdk_68_method_2_code 22 = .ok (.goto 16, 3) := by decide +kernel
theorem d9_38 : decode jdk_68_method_2_code 38 = .ok (.return_, 1) := by decide +kernel
theorem pn_java_lang_AbstractStringBuilder : plainName "java/lang/AbstractStringBuilder" = true := by first | (simp [plainName, overriddenIn]; done) | decide +kernel
def Q_rmABI (Z : State) (a1 : Nat) (zc : Int32) (h0 : Heap) (n0 : Nat) (v : Option Value) (h : Heap) (L : List Loc) : Prop := ∃ (vb : Nat), ∃ (kv : ClassId), v = none ∧ Fr n0 L ∧ Keep h0 h [a1] ∧ Exa Z h a1 "java/lang/StringBuilder" ∧ Fld Z h a1 "java/lang/AbstractStringBuilder" "value" "[B" (.ref vb) ∧ Fld Z h a1 "java/lang/AbstractStringBuilder" "coder" "B" (.int (0 : Int32)) ∧ Fld Z h a1 "java/lang/AbstractStringBuilder" "count" "I" (.int (0 : Int32)) ∧ Arv Z h vb kv .byte (16 : Int32) [] (.int (0 : Int32)) ∧ (h0.size ≤ vb)
set_option maxRecDepth 65536 in
set_option maxHeartbeats 40000000 in
theorem rmABI (l : Launch) (Z : State) (a0 : Array Value) (hw : ∀ d ∈ tables_1, d.before a0 Z = true) (ws : List Jvm.Cond) (a1 : Nat) (zc : Int32) (h0 : Heap) (n0 : Nat) (Z0 : n0 ≤ h0.size) (P1 : Exa Z h0 a1 "java/lang/StringBuilder") (P2 : Fld Z h0 a1 "java/lang/AbstractStringBuilder" "value" "[B" .null) (P3 : Fld Z h0 a1 "java/lang/AbstractStringBuilder" "coder" "B" (.int (0 : Int32))) (P4 : Fld Z h0 a1 "java/lang/AbstractStringBuilder" "count" "I" (.int (0 : Int32))) (OLD : Old Z n0 h0) (P5 : Sta Z Z.heap "java/lang/String" "COMPACT_STRINGS" "Z" (.int zc)) (hzc : ¬ (zc = (0 : Int32))) (ga : n0 ≤ a1) :
    MetFree l (⟨"java/lang/AbstractStringBuilder", "<init>", "(I)V"⟩ : MethodName) (head1 (Jvm.Cond.code (⟨"java/lang/AbstractStringBuilder", "<init>", "(I)V"⟩ : MethodName) jdk_68_method_2_code 2 none :: ws) ({ frames := 1, cells := 1, slots := 16, locals := 12 } : Room)) (fun a U => a = #[(.ref a1), (.int (16 : Int32))] ∧ Z.Warmed39 U.vm ∧ U.heap = h0) (fun _ _ _ _ _ => True) (fun _ U o U' => ∃ v L, o = .returned v ∧ Q_rmABI Z a1 zc h0 n0 v U'.heap L ∧ FrameEnd U o U' L ({ frames := 1, cells := 1, slots := 16, locals := 12 } : Room).cells ({ frames := 1, cells := 1, slots := 16, locals := 12 } : Room).slots) := by
  refine MetFree.of_bodySF (plainFor_of_name pn_java_lang_AbstractStringBuilder) hisR ?_
  intro p e s m args below meth c s₁ Bd hml0 hP hK
  obtain ⟨rfl, hZ, hh⟩ := hP
  have hx := Bd.exec
  have hby := Bd.bytes
  have hml : c.maxLocals = 2 := hml0
  have hown : s.vm.findClass "java/lang/AbstractStringBuilder" = some m.cls := findClass_of_methodNamed Bd.named
  have hnm := (name_of_methodNamed Bd.named Bd.method).1
  have X0 : Stand p l e ({ frames := 1, cells := 1, slots := 16, locals := 12 } : Room) s m #[(.ref a1), (.int (16 : Int32))] below meth c s₁ [] 0 0 := Stand.of_body Bd
  have e0 : s₁.heap = h0 := by rw [← hh, Bd.state]; rfl
  have N0 := Fr.nil n0
  have pre0 : ∀ t, Steps p.tables e below (s₁.setTop (mkF m 0 #[.val (.ref a1), .val (.int (16 : Int32))] [])) t → Steps p.tables e below (s₁.setTop (entryFrame m #[(.ref a1), (.int (16 : Int32))] 2)) t := fun t k => castTop (ef_rmABI m a1 (16 : Int32)) k
  have oz := OLD.1
  have lt_a1 : a1 < h0.size := P1.lt
  refine own_go (B := s₁.setTop (mkF m 0 #[.val (.ref a1), .val (.int (16 : Int32))] [])) pre0 ?_
  show ∃ t o, Steps p.tables e below (s₁.setTop (mkF m 0 #[.val (.ref a1), .val (.int (16 : Int32))] [])) t ∧ _
  refine own_go (fun _ => XS.aloadN X0.here hx rfl (hb hby d9_0) rfl rfl) ?_
  show ∃ t o, Steps p.tables e below (s₁.setTop (mkF m 1 #[.val (.ref a1), .val (.int (16 : Int32))] [(.ref a1)])) t ∧ _
  obtain ⟨T6, X6, e6, st6⟩ := initO X0 hx hZ hown (hw _ (List.mem_of_getElem? (i := 61) rfl)) (hw _ (List.mem_of_getElem? (i := 16) rfl)) (hw _ (List.mem_of_getElem? (i := 17) rfl)) e0 (g := (mkF m 1 #[.val (.ref a1), .val (.int (16 : Int32))] [(.ref a1)])) rfl (by rw [hml]; rfl) rfl (hb hby d9_1) (by decide) (W := 0) (by show 2 * 0 + _ ≤ _; exact Nat.le_of_eq rfl) (by decide)
  refine own_go st6 ?_
  obtain ⟨T7, X7, e7, st7⟩ := getS2 X6 hx hZ hown (host := "") (Or.inl (hw _ (List.mem_of_getElem? (i := 62) rfl))) Via.refl e6 (Sta.ext OLD.2 P5) (g := (mkF m 4 #[.val (.ref a1), .val (.int (16 : Int32))] [])) rfl (hb hby d9_4)
  refine own_go st7 ?_
  show ∃ t o, Steps p.tables e below (T7.setTop (mkF m 7 #[.val (.ref a1), .val (.int (16 : Int32))] [(.int zc)])) t ∧ _
  refine own_go (fun _ => XS.ifNo X7.here hx rfl (hb hby d9_7) rfl ((if0 _ _).trans (feq hzc).1)) ?_
  refine own_go (fun _ => XS.aloadN X7.here hx rfl (hb hby d9_10) rfl rfl) ?_
  refine own_go (fun _ => XS.iloadN X7.here hx rfl (hb hby d9_11) rfl) ?_
  show ∃ t o, Steps p.tables e below (T7.setTop (mkF m 12 #[.val (.ref a1), .val (.int (16 : Int32))] [(.int (16 : Int32)), (.ref a1)])) t ∧ _
  obtain ⟨T8, h8, k8, X8, e8, E8, A8, st8⟩ := newP X7 hx hZ (hw _ (List.mem_of_getElem? (i := 19) rfl)) e7 (g := (mkF m 12 #[.val (.ref a1), .val (.int (16 : Int32))] [(.int (16 : Int32)), (.ref a1)])) rfl (hb hby d9_12) rfl (by decide) (cap := 16) (by decide) (by decide) (by decide) (by decide)
  obtain ⟨b8, g8⟩ : ∃ z, z = h0.size := ⟨_, rfl⟩
  rw [← g8] at A8 st8
  refine own_go st8 ?_
  have le_8 : h0.size ≤ h8.size := E8.1
  have lt_b8 : b8 < h8.size := A8.lt
  have V_b8 : Arv Z h8 b8 k8 .byte (16 : Int32) [] (.int (0 : Int32)) := (Arv.new A8 (by decide)).pad (pad_rep [] (.int (0 : Int32)) 0)
  have K8 : Keep h0 h8 [a1] := Keep.ext (Keep.refl h0 [a1]) E8
  have F9 : Exa Z h8 a1 "java/lang/StringBuilder" := (Exa.ext E8 P1)
  have F10 : Fld Z h8 a1 "java/lang/AbstractStringBuilder" "value" "[B" .null := (Fld.ext E8 P2)
  obtain ⟨T11, h11, X11, e11, W11, st11⟩ := putF X8 hx hZ hown (host := "") (Or.inl (hw _ (List.mem_of_getElem? (i := 63) rfl))) Via.refl e8 F10 F9 (Or.inl (hw _ (List.mem_of_getElem? (i := 64) rfl))) (hw _ (List.mem_of_getElem? (i := 50) rfl)) (ty := (.array .byte)) (by decide) rfl rfl (g := (mkF m 14 #[.val (.ref a1), .val (.int (16 : Int32))] [(.ref b8), (.ref a1)])) rfl rfl (hb hby d9_14)
  refine own_go st11 ?_
  have le_11 : h8.size ≤ h11.size := Nat.le_of_eq W11.size.symm
  have K11 : Keep h0 h11 [a1] := Keep.wr K8 W11 (Or.inl (List.mem_of_getElem? (i := 0) rfl))
  have N11 := Fr.snoc X11 N0 ga
  have Fw11 := Fld.same W11 F10
  refine own_go (fun _ => XS.aloadN X11.here hx rfl (hb hby d9_17) rfl rfl) ?_
  show ∃ t o, Steps p.tables e below (T11.setTop (mkF m 18 #[.val (.ref a1), .val (.int (16 : Int32))] [(.ref a1)])) t ∧ _
  refine own_go (fun _ => XS.iconst X11.here hx rfl (hb hby d9_18)) ?_
  have F12 : Exa Z h11 a1 "java/lang/StringBuilder" := (Exa.wr W11 F9)
  have F13 : Fld Z h11 a1 "java/lang/AbstractStringBuilder" "coder" "B" (.int (0 : Int32)) := (Fld.other W11 (Fld.ext E8 P3) (Or.inr (slot_ne (a0 := a0) (Or.inl (hw _ (List.mem_of_getElem? (i := 66) rfl))) (Or.inl (hw _ (List.mem_of_getElem? (i := 64) rfl))) (by decide) (t := .byte) (t' := (.array .byte)) (by decide) (by decide))))
  obtain ⟨T14, h14, X14, e14, W14, st14⟩ := putFN X11 hx hZ hown (hw _ (List.mem_of_getElem? (i := 65) rfl)) Via.refl e11 F13 F12 (Or.inl (hw _ (List.mem_of_getElem? (i := 66) rfl))) (hw _ (List.mem_of_getElem? (i := 50) rfl)) (ty := .byte) (v' := (.int (0 : Int32).toInt8.toInt32)) (by decide) rfl (fits_nar_byte _) (g := (mkF m 19 #[.val (.ref a1), .val (.int (16 : Int32))] [(.int (0 : Int32)), (.ref a1)])) rfl rfl (hb hby d9_19)
  refine own_go st14 ?_
  have le_14 : h11.size ≤ h14.size := Nat.le_of_eq W14.size.symm
  have K14 : Keep h0 h14 [a1] := Keep.wr K11 W14 (Or.inl (List.mem_of_getElem? (i := 0) rfl))
  have N14 := Fr.snoc X14 N11 ga
  have Fw14 := Fld.same W14 F13
  have Fcz : Fld Z h14 a1 "java/lang/AbstractStringBuilder" "coder" "B" (.int (0 : Int32)) := Fw14
  refine own_go (fun _ => XS.goto X14.here hx rfl (pc0 := 22) (pc' := 38) rfl (hb hby d9_22) (by decide) (by decide)) ?_
  show ∃ t o, Steps p.tables e below (T14.setTop (mkF m 38 #[.val (.ref a1), .val (.int (16 : Int32))] [])) t ∧ _
  have F15 : Exa Z h14 a1 "java/lang/StringBuilder" := (Exa.wr W14 F12)
  have F16 : Fld Z h14 a1 "java/lang/AbstractStringBuilder" "value" "[B" (.ref b8) := (Fld.other W14 Fw11 (Or.inr (slot_ne (a0 := a0) (Or.inl (hw _ (List.mem_of_getElem? (i := 64) rfl))) (Or.inl (hw _ (List.mem_of_getElem? (i := 66) rfl))) (by decide) (t := (.array .byte)) (t' := .byte) (by decide) (by decide))))
  have F17 : Fld Z h14 a1 "java/lang/AbstractStringBuilder" "count" "I" (.int (0 : Int32)) := (Fld.other W14 (Fld.other W11 (Fld.ext E8 P4) (Or.inr (slot_ne (a0 := a0) (Or.inl (hw _ (List.mem_of_getElem? (i := 89) rfl))) (Or.inl (hw _ (List.mem_of_getElem? (i := 64) rfl))) (by decide) (t := .int) (t' := (.array .byte)) (by decide) (by decide)))) (Or.inr (slot_ne (a0 := a0) (Or.inl (hw _ (List.mem_of_getElem? (i := 89) rfl))) (Or.inl (hw _ (List.mem_of_getElem? (i := 66) rfl))) (by decide) (t := .int) (t' := .byte) (by decide) (by decide))))
  have ne18 : b8 ≠ a1 := own_ne (by omega)
  have F19 : Arv Z h14 b8 k8 .byte (16 : Int32) [] (.int (0 : Int32)) := (Arv.other (Arv.other V_b8 W11 ne18) W14 ne18)
  obtain ⟨fs, hr, hrun, hended, hW, hsame⟩ := X14.leave (v := none) (fun _ => rfl)
  refine ⟨_, _, ?_, hrun, hended, _, _, rfl, ?_, ⟨_, rfl⟩, hW, hsame.mono (by decide) (by decide)⟩
  · exact X14.returnOut hx Bd.returns (hb hby d9_38) hr
  · show Q_rmABI Z _ _ h0 n0 _ T14.heap _
    rw [e14]
    exact ⟨b8, k8, rfl, N14, K14, F15, F16, Fcz, F17, F19, (by omega)⟩
theorem ef_rmSBI (m : MethodId) (x0 : Nat) : entryFrame m #[(.ref x0)] 1 = mkF m 0 #[.val (.ref x0)] [] := by first | (simp [entryFrame, mkF, argsToLocals, Value.category]; done) | rfl
theorem d8_0 : decode jdk_67_method_1_code 0 = .ok (.aload_n 0, 1) := by decide +kernel
theorem d8_1 : decode jdk_67_method_1_code 1 = .ok (.bipush 16, 2) := by decide +kernel
theorem d8_3 : decode jdk_67_method_1_code 3 = .ok (.invokespecial 1, 3) := by decide +kernel
theorem pd__28I_29V : parseMethodDescriptor "(I)V" = some ⟨[.int], none⟩ := by decide +kernel
theorem d8_6 : decode jdk_67_method_1_code 6 = .ok (.return_, 1) := by decide +kernel
theorem pn_java_lang_StringBuilder : plainName "java/lang/StringBuilder" = true := by first | (simp [plainName, overriddenIn]; done) | decide +kernel
def Q_rmSBI (Z : State) (a1 : Nat) (zc : Int32) (h0 : Heap) (n0 : Nat) (v : Option Value) (h : Heap) (L : List Loc) : Prop := ∃ (vb : Nat), ∃ (kv : ClassId), v = none ∧ Fr n0 L ∧ Keep h0 h [a1] ∧ Exa Z h a1 "java/lang/StringBuilder" ∧ Fld Z h a1 "java/lang/AbstractStringBuilder" "value" "[B" (.ref vb) ∧ Fld Z h a1 "java/lang/AbstractStringBuilder" "coder" "B" (.int (0 : Int32)) ∧ Fld Z h a1 "java/lang/AbstractStringBuilder" "count" "I" (.int (0 : Int32)) ∧ Arv Z h vb kv .byte (16 : Int32) [] (.int (0 : Int32)) ∧ (h0.size ≤ vb)
set_option maxRecDepth 65536 in
set_option maxHeartbeats 40000000 in
theorem rmSBI (l : Launch) (Z : State) (a0 : Array Value) (hw : ∀ d ∈ tables_1, d.before a0 Z = true) (ws : List Jvm.Cond) (a1 : Nat) (zc : Int32) (h0 : Heap) (n0 : Nat) (Z0 : n0 ≤ h0.size) (P1 : Exa Z h0 a1 "java/lang/StringBuilder") (P2 : Fld Z h0 a1 "java/lang/AbstractStringBuilder" "value" "[B" .null) (P3 : Fld Z h0 a1 "java/lang/AbstractStringBuilder" "coder" "B" (.int (0 : Int32))) (P4 : Fld Z h0 a1 "java/lang/AbstractStringBuilder" "count" "I" (.int (0 : Int32))) (OLD : Old Z n0 h0) (P5 : Sta Z Z.heap "java/lang/String" "COMPACT_STRINGS" "Z" (.int zc)) (hzc : ¬ (zc = (0 : Int32))) (ga : n0 ≤ a1) :
    MetFree l (⟨"java/lang/StringBuilder", "<init>", "()V"⟩ : MethodName) (head1 (Jvm.Cond.code (⟨"java/lang/StringBuilder", "<init>", "()V"⟩ : MethodName) jdk_67_method_1_code 1 none :: ws) ({ frames := 2, cells := 1, slots := 16, locals := 25 } : Room)) (fun a U => a = #[(.ref a1)] ∧ Z.Warmed39 U.vm ∧ U.heap = h0) (fun _ _ _ _ _ => True) (fun _ U o U' => ∃ v L, o = .returned v ∧ Q_rmSBI Z a1 zc h0 n0 v U'.heap L ∧ FrameEnd U o U' L ({ frames := 2, cells := 1, slots := 16, locals := 25 } : Room).cells ({ frames := 2, cells := 1, slots := 16, locals := 25 } : Room).slots) := by
  refine MetFree.of_bodySF (plainFor_of_name pn_java_lang_StringBuilder) hisR ?_
  intro p e s m args below meth c s₁ Bd hml0 hP hK
  obtain ⟨rfl, hZ, hh⟩ := hP
  have hx := Bd.exec
  have hby := Bd.bytes
  have hml : c.maxLocals = 1 := hml0
  have hown : s.vm.findClass "java/lang/StringBuilder" = some m.cls := findClass_of_methodNamed Bd.named
  have hnm := (name_of_methodNamed Bd.named Bd.method).1
  have X0 : Stand p l e ({ frames := 2, cells := 1, slots := 16, locals := 25 } : Room) s m #[(.ref a1)] below meth c s₁ [] 0 0 := Stand.of_body Bd
  have e0 : s₁.heap = h0 := by rw [← hh, Bd.state]; rfl
  have N0 := Fr.nil n0
  have pre0 : ∀ t, Steps p.tables e below (s₁.setTop (mkF m 0 #[.val (.ref a1)] [])) t → Steps p.tables e below (s₁.setTop (entryFrame m #[(.ref a1)] 1)) t := fun t k => castTop (ef_rmSBI m a1) k
  have oz := OLD.1
  have lt_a1 : a1 < h0.size := P1.lt
  refine own_go (B := s₁.setTop (mkF m 0 #[.val (.ref a1)] [])) pre0 ?_
  show ∃ t o, Steps p.tables e below (s₁.setTop (mkF m 0 #[.val (.ref a1)] [])) t ∧ _
  refine own_go (fun _ => XS.aloadN X0.here hx rfl (hb hby d8_0) rfl rfl) ?_
  refine own_go (fun _ => XS.bipush X0.here hx rfl (hb hby d8_1)) ?_
  show ∃ t o, Steps p.tables e below (s₁.setTop (mkF m 3 #[.val (.ref a1)] [(.int (16 : Int32)), (.ref a1)])) t ∧ _
  obtain ⟨_, _, ⟨T6, L6, k6, n6⟩, -, X6, ⟨Lc6, hQ6, l6, y6, z6⟩, st6⟩ := X0.specialBack hx (y := (⟨"java/lang/AbstractStringBuilder", "<init>", "(I)V"⟩ : MethodName)) rfl hown (mvT hZ (hw _ (List.mem_of_getElem? (i := 55) rfl))) (mvT hZ (hw _ (List.mem_of_getElem? (i := 56) rfl))) (mvT hZ (hw _ (List.mem_of_getElem? (i := 60) rfl))) (by decide) (backOf (W := 0) (rmABI l Z a0 hw [] a1 zc h0 n0 Z0 P1 P2 P3 P4 OLD P5 hzc ga) hZ (hw _ (List.mem_of_getElem? (i := 60) rfl)) (hw _ (List.mem_of_getElem? (i := 59) rfl)) (by decide) (by decide)) (g := (mkF m 3 #[.val (.ref a1)] [(.int (16 : Int32)), (.ref a1)])) rfl (by rw [hml]; rfl) (Steps.refl _) (a := a1) (argsL := [(.int (16 : Int32))]) (rest := []) (lenOf pd__28I_29V rfl) rfl (by show 2 * 0 + _ ≤ _; exact Nat.le_of_eq rfl) (hb hby d8_3) (fun _ _ => ⟨rfl, e0, (by decide : 0 + 1 ≤ _), (by decide : 0 + 16 ≤ _)⟩)
  dsimp only [Pt.U, Pt.locs, Pt.cells, Pt.slots] at X6 l6 y6 z6 st6 hQ6
  rw [l6, y6, z6] at X6
  obtain ⟨vb_6, kv_6, rfl, Nq6, Kp6, G6_0, G6_1, G6_2, G6_3, G6_4, H6_0⟩ := hQ6
  have N6 := Fr.app N0 Nq6
  refine own_goT st6 ?_
  have le_6 : h0.size ≤ T6.heap.size := Kp6.1
  have K6 : Keep h0 T6.heap [a1] := Keep.trans (Keep.refl h0 [a1]) Kp6 (allS (Or.inl (List.mem_of_getElem? (i := 0) rfl)) all0)
  have lt_vb_6 : vb_6 < T6.heap.size := (G6_4).lt
  show ∃ t o, Steps p.tables e below (T6.setTop (mkF m 6 #[.val (.ref a1)] [])) t ∧ _
  obtain ⟨fs, hr, hrun, hended, hW, hsame⟩ := X6.leave (v := none) (fun _ => rfl)
  refine ⟨_, _, ?_, hrun, hended, _, _, rfl, ?_, ⟨_, rfl⟩, hW, hsame.mono (by decide) (by decide)⟩
  · exact X6.returnOut hx Bd.returns (hb hby d8_6) hr
  · show Q_rmSBI Z _ _ h0 n0 _ T6.heap _
    exact ⟨vb_6, kv_6, rfl, N6, K6, G6_0, G6_1, G6_2, G6_3, G6_4, H6_0⟩
theorem ef_rmEns (m : MethodId) (x0 : Nat) (x1 : Int32) : entryFrame m #[(.ref x0), (.int x1)] 3 = mkF m 0 #[.val (.ref x0), .val (.int x1), .unset] [] := by first | (simp [entryFrame, mkF, argsToLocals, Value.category]; done) | rfl
theorem d14_0 : decode jdk_68_method_9_code 0 = .ok (.aload_n 0, 1) := by decide +kernel
theorem d14_1 : decode jdk_68_method_9_code 1 = .ok (.getfield 15, 3) := by decide +kernel
theorem d14_4 : decode jdk_68_method_9_code 4 = .ok (.arraylength, 1) := by decide +kernel
theorem d14_5 : decode jdk_68_method_9_code 5 = .ok (.aload_n 0, 1) := by decide +kernel
theorem d14_6 : decode jdk_68_method_9_code 6 = .ok (.getfield 22, 3) := by decide +kernel
theorem d14_9 : decode jdk_68_method_9_code 9 = .ok (.ishr, 1) := by decide +kernel
theorem d14_10 : decode jdk_68_method_9_code 10 = .ok (.istore_n 2, 1) := by decide +kernel
theorem d14_11 : decode jdk_68_method_9_code 11 = .ok (.iload_n 1, 1) := by decide +kernel
theorem d14_12 : decode jdk_68_method_9_code 12 = .ok (.iload_n 2, 1) := by decide +kernel
theorem d14_13 : decode jdk_68_method_9_code 13 = .ok (.isub, 1) := by decide +kernel
theorem d14_14 : decode jdk_68_method_9_code 14 = .ok (.ifCond .le 24, 3) := by decide +kernel
theorem d14_38 : decode jdk_68_method_9_code 38 = .ok (.return_, 1) := by decide +kernel
def Q_rmEns (Z : State) (sb : Nat) (vb : Nat) (kv : ClassId) (us : List Value) (mn : Int32) (h0 : Heap) (n0 : Nat) (v : Option Value) (h : Heap) (L : List Loc) : Prop := v = none ∧ Fr n0 L ∧ h = h0
set_option maxRecDepth 65536 in
set_option maxHeartbeats 40000000 in
theorem rmEns (l : Launch) (Z : State) (a0 : Array Value) (hw : ∀ d ∈ tables_1, d.before a0 Z = true) (ws : List Jvm.Cond) (sb : Nat) (vb : Nat) (kv : ClassId) (us : List Value) (mn : Int32) (h0 : Heap) (n0 : Nat) (Z0 : n0 ≤ h0.size) (P1 : Exa Z h0 sb "java/lang/StringBuilder") (P2 : Fld Z h0 sb "java/lang/AbstractStringBuilder" "value" "[B" (.ref vb)) (P3 : Fld Z h0 sb "java/lang/AbstractStringBuilder" "coder" "B" (.int (0 : Int32))) (P4 : Arv Z h0 vb kv .byte (16 : Int32) us (.int (0 : Int32))) (OLD : Old Z n0 h0) (hmn : ¬ ((0 : Int32) < (mn - (16 : Int32)))) :
    MetFree l (⟨"java/lang/AbstractStringBuilder", "ensureCapacityInternal", "(I)V"⟩ : MethodName) (head1 (Jvm.Cond.code (⟨"java/lang/AbstractStringBuilder", "ensureCapacityInternal", "(I)V"⟩ : MethodName) jdk_68_method_9_code 3 none :: ws) ({ frames := 0, cells := 0, slots := 0, locals := 0 } : Room)) (fun a U => a = #[(.ref sb), (.int mn)] ∧ Z.Warmed39 U.vm ∧ U.heap = h0) (fun _ _ _ _ _ => True) (fun _ U o U' => ∃ v L, o = .returned v ∧ Q_rmEns Z sb vb kv us mn h0 n0 v U'.heap L ∧ FrameEnd U o U' L ({ frames := 0, cells := 0, slots := 0, locals := 0 } : Room).cells ({ frames := 0, cells := 0, slots := 0, locals := 0 } : Room).slots) := by
  refine MetFree.of_bodySF (plainFor_of_name pn_java_lang_AbstractStringBuilder) hisR ?_
  intro p e s m args below meth c s₁ Bd hml0 hP hK
  obtain ⟨rfl, hZ, hh⟩ := hP
  have hx := Bd.exec
  have hby := Bd.bytes
  have hml : c.maxLocals = 3 := hml0
  have hown : s.vm.findClass "java/lang/AbstractStringBuilder" = some m.cls := findClass_of_methodNamed Bd.named
  have hnm := (name_of_methodNamed Bd.named Bd.method).1
  have X0 : Stand p l e ({ frames := 0, cells := 0, slots := 0, locals := 0 } : Room) s m #[(.ref sb), (.int mn)] below meth c s₁ [] 0 0 := Stand.of_body Bd
  have e0 : s₁.heap = h0 := by rw [← hh, Bd.state]; rfl
  have N0 := Fr.nil n0
  have pre0 : ∀ t, Steps p.tables e below (s₁.setTop (mkF m 0 #[.val (.ref sb), .val (.int mn), .unset] [])) t → Steps p.tables e below (s₁.setTop (entryFrame m #[(.ref sb), (.int mn)] 3)) t := fun t k => castTop (ef_rmEns m sb mn) k
  have oz := OLD.1
  have lt_sb : sb < h0.size := P1.lt
  have lt_vb : vb < h0.size := P4.lt
  refine own_go (B := s₁.setTop (mkF m 0 #[.val (.ref sb), .val (.int mn), .unset] [])) pre0 ?_
  show ∃ t o, Steps p.tables e below (s₁.setTop (mkF m 0 #[.val (.ref sb), .val (.int mn), .unset] [])) t ∧ _
  refine own_go (fun _ => XS.aloadN X0.here hx rfl (hb hby d14_0) rfl rfl) ?_
  obtain ⟨T5, X5, e5, st5⟩ := getF X0 hx hZ hown (host := "") (Or.inl (hw _ (List.mem_of_getElem? (i := 63) rfl))) Via.refl e0 P2 (g := (mkF m 1 #[.val (.ref sb), .val (.int mn), .unset] [(.ref sb)])) rfl rfl (hb hby d14_1)
  refine own_go st5 ?_
  obtain ⟨cl6, Ar6, q6, S6, N6, H6, G6⟩ := id P4
  have ln6 : cl6.slots.size.toInt32 = (16 : Int32) := len_of S6 N6
  have al6 := X5.arraylength hx (by rw [e5]; exact Ar6.1) (State.isArrayOf_alike hZ.alike Ar6.2.1) (g := (mkF m 4 #[.val (.ref sb), .val (.int mn), .unset] [(.ref vb)])) rfl rfl (hb hby d14_4)
  rw [ln6] at al6
  refine own_go al6 ?_
  show ∃ t o, Steps p.tables e below (T5.setTop (mkF m 5 #[.val (.ref sb), .val (.int mn), .unset] [(.int (16 : Int32))])) t ∧ _
  refine own_go (fun _ => XS.aloadN X5.here hx rfl (hb hby d14_5) rfl rfl) ?_
  obtain ⟨T7, X7, e7, st7⟩ := getF X5 hx hZ hown (host := "") (Or.inl (hw _ (List.mem_of_getElem? (i := 65) rfl))) Via.refl e5 P3 (g := (mkF m 6 #[.val (.ref sb), .val (.int mn), .unset] [(.ref sb), (.int (16 : Int32))])) rfl rfl (hb hby d14_6)
  refine own_go st7 ?_
  refine own_go (fun _ => XS.ishr X7.here hx rfl (hb hby d14_9) rfl) ?_
  show ∃ t o, Steps p.tables e below (T7.setTop (mkF m 10 #[.val (.ref sb), .val (.int mn), .unset] [(.int (16 : Int32))])) t ∧ _
  refine own_go (fun _ => XS.istoreN X7.here hx rfl (hb hby d14_10) rfl (l' := #[.val (.ref sb), .val (.int mn), .val (.int (16 : Int32))]) rfl) ?_
  refine own_go (fun _ => XS.iloadN X7.here hx rfl (hb hby d14_11) rfl) ?_
  refine own_go (fun _ => XS.iloadN X7.here hx rfl (hb hby d14_12) rfl) ?_
  show ∃ t o, Steps p.tables e below (T7.setTop (mkF m 13 #[.val (.ref sb), .val (.int mn), .val (.int (16 : Int32))] [(.int (16 : Int32)), (.int mn)])) t ∧ _
  refine own_go (fun _ => XS.isub X7.here hx rfl (hb hby d14_13) rfl) ?_
  show ∃ t o, Steps p.tables e below (T7.setTop (mkF m 14 #[.val (.ref sb), .val (.int mn), .val (.int (16 : Int32))] [(.int (mn - (16 : Int32)))])) t ∧ _
  refine own_go (fun _ => XS.ifYes X7.here hx rfl (pc0 := 14) (pc' := 38) rfl (hb hby d14_14) rfl ((if0 _ _).trans (flt hmn).2.2.2) (by decide) (by decide)) ?_
  show ∃ t o, Steps p.tables e below (T7.setTop (mkF m 38 #[.val (.ref sb), .val (.int mn), .val (.int (16 : Int32))] [])) t ∧ _
  obtain ⟨fs, hr, hrun, hended, hW, hsame⟩ := X7.leave (v := none) (fun _ => rfl)
  refine ⟨_, _, ?_, hrun, hended, _, _, rfl, ?_, ⟨_, rfl⟩, hW, hsame.mono (by decide) (by decide)⟩
  · exact X7.returnOut hx Bd.returns (hb hby d14_38) hr
  · show Q_rmEns Z _ _ _ _ _ h0 n0 _ T7.heap _
    rw [e7]
    exact ⟨rfl, N0, rfl⟩
theorem ef_rmInf (m : MethodId) (x0 : Nat) (x1 : Nat) : entryFrame m #[(.ref x0), (.ref x1)] 2 = mkF m 0 #[.val (.ref x0), .val (.ref x1)] [] := by first | (simp [entryFrame, mkF, argsToLocals, Value.category]; done) | rfl
theorem d16_0 : decode jdk_68_method_71_code 0 = .ok (.getstatic 18, 3) := by decide +kernel
theorem d16_3 : decode jdk_68_method_71_code 3 = .ok (.ifCond .eq 18, 3) := by decide +kernel
theorem d16_6 : decode jdk_68_method_71_code 6 = .ok (.aload_n 0, 1) := by decide +kernel
theorem d16_7 : decode jdk_68_method_71_code 7 = .ok (.getfield 22, 3) := by decide +kernel
theorem d16_10 : decode jdk_68_method_71_code 10 = .ok (.aload_n 1, 1) := by decide +kernel
theorem d16_11 : decode jdk_68_method_71_code 11 = .ok (.invokevirtual 40, 3) := by decide +kernel
theorem d16_14 : decode jdk_68_method_71_code 14 = .ok (.if_icmp .eq 7, 3) := by decide +kernel
theorem d16_21 : decode jdk_68_method_71_code 21 = .ok (.return_, 1) := by decide +kernel
def Q_rmInf (Z : State) (sb : Nat) (so : Nat) (zc : Int32) (h0 : Heap) (n0 : Nat) (v : Option Value) (h : Heap) (L : List Loc) : Prop := v = none ∧ Fr n0 L ∧ h = h0
set_option maxRecDepth 65536 in
set_option maxHeartbeats 40000000 in
theorem rmInf (l : Launch) (Z : State) (a0 : Array Value) (hw : ∀ d ∈ tables_1, d.before a0 Z = true) (ws : List Jvm.Cond) (sb : Nat) (so : Nat) (zc : Int32) (h0 : Heap) (n0 : Nat) (Z0 : n0 ≤ h0.size) (P1 : Exa Z h0 sb "java/lang/StringBuilder") (P2 : Fld Z h0 sb "java/lang/AbstractStringBuilder" "coder" "B" (.int (0 : Int32))) (P3 : Exa Z h0 so "java/lang/String") (P4 : Fld Z h0 so "java/lang/String" "coder" "B" (.int (0 : Int32))) (OLD : Old Z n0 h0) (P5 : Sta Z Z.heap "java/lang/String" "COMPACT_STRINGS" "Z" (.int zc)) (hzc : ¬ (zc = (0 : Int32))) :
    MetFree l (⟨"java/lang/AbstractStringBuilder", "inflateIfNeededFor", "(Ljava/lang/String;)V"⟩ : MethodName) (head1 (Jvm.Cond.code (⟨"java/lang/AbstractStringBuilder", "inflateIfNeededFor", "(Ljava/lang/String;)V"⟩ : MethodName) jdk_68_method_71_code 2 none :: ws) ({ frames := 1, cells := 0, slots := 0, locals := 13 } : Room)) (fun a U => a = #[(.ref sb), (.ref so)] ∧ Z.Warmed39 U.vm ∧ U.heap = h0) (fun _ _ _ _ _ => True) (fun _ U o U' => ∃ v L, o = .returned v ∧ Q_rmInf Z sb so zc h0 n0 v U'.heap L ∧ FrameEnd U o U' L ({ frames := 1, cells := 0, slots := 0, locals := 13 } : Room).cells ({ frames := 1, cells := 0, slots := 0, locals := 13 } : Room).slots) := by
  refine MetFree.of_bodySF (plainFor_of_name pn_java_lang_AbstractStringBuilder) hisR ?_
  intro p e s m args below meth c s₁ Bd hml0 hP hK
  obtain ⟨rfl, hZ, hh⟩ := hP
  have hx := Bd.exec
  have hby := Bd.bytes
  have hml : c.maxLocals = 2 := hml0
  have hown : s.vm.findClass "java/lang/AbstractStringBuilder" = some m.cls := findClass_of_methodNamed Bd.named
  have hnm := (name_of_methodNamed Bd.named Bd.method).1
  have X0 : Stand p l e ({ frames := 1, cells := 0, slots := 0, locals := 13 } : Room) s m #[(.ref sb), (.ref so)] below meth c s₁ [] 0 0 := Stand.of_body Bd
  have e0 : s₁.heap = h0 := by rw [← hh, Bd.state]; rfl
  have N0 := Fr.nil n0
  have pre0 : ∀ t, Steps p.tables e below (s₁.setTop (mkF m 0 #[.val (.ref sb), .val (.ref so)] [])) t → Steps p.tables e below (s₁.setTop (entryFrame m #[(.ref sb), (.ref so)] 2)) t := fun t k => castTop (ef_rmInf m sb so) k
  have oz := OLD.1
  have lt_sb : sb < h0.size := P1.lt
  have lt_so : so < h0.size := P3.lt
  refine own_go (B := s₁.setTop (mkF m 0 #[.val (.ref sb), .val (.ref so)] [])) pre0 ?_
  show ∃ t o, Steps p.tables e below (s₁.setTop (mkF m 0 #[.val (.ref sb), .val (.ref so)] [])) t ∧ _
  obtain ⟨T6, X6, e6, st6⟩ := getS2 X0 hx hZ hown (host := "") (Or.inl (hw _ (List.mem_of_getElem? (i := 62) rfl))) Via.refl e0 (Sta.ext OLD.2 P5) (g := (mkF m 0 #[.val (.ref sb), .val (.ref so)] [])) rfl (hb hby d16_0)
  refine own_go st6 ?_
  show ∃ t o, Steps p.tables e below (T6.setTop (mkF m 3 #[.val (.ref sb), .val (.ref so)] [(.int zc)])) t ∧ _
  refine own_go (fun _ => XS.ifNo X6.here hx rfl (hb hby d16_3) rfl ((if0 _ _).trans (feq hzc).1)) ?_
  refine own_go (fun _ => XS.aloadN X6.here hx rfl (hb hby d16_6) rfl rfl) ?_
  obtain ⟨T7, X7, e7, st7⟩ := getF X6 hx hZ hown (host := "") (Or.inl (hw _ (List.mem_of_getElem? (i := 65) rfl))) Via.refl e6 P2 (g := (mkF m 7 #[.val (.ref sb), .val (.ref so)] [(.ref sb)])) rfl rfl (hb hby d16_7)
  refine own_go st7 ?_
  show ∃ t o, Steps p.tables e below (T7.setTop (mkF m 10 #[.val (.ref sb), .val (.ref so)] [(.int (0 : Int32))])) t ∧ _
  refine own_go (fun _ => XS.aloadN X7.here hx rfl (hb hby d16_10) rfl rfl) ?_
  show ∃ t o, Steps p.tables e below (T7.setTop (mkF m 11 #[.val (.ref sb), .val (.ref so)] [(.ref so), (.int (0 : Int32))])) t ∧ _
  obtain ⟨cq8, kq8, q8a, q8b, q8c⟩ := isOf hZ e7 P3
  obtain ⟨_, _, ⟨T8, L8, k8, n8⟩, -, X8, ⟨Lc8, hQ8, l8, y8, z8⟩, st8⟩ := X7.virtualBack hx (y := (⟨"java/lang/String", "coder", "()B"⟩ : MethodName)) (z := (⟨"java/lang/String", "coder", "()B"⟩ : MethodName)) hown (mvT hZ (hw _ (List.mem_of_getElem? (i := 105) rfl))) (mvT hZ (hw _ (List.mem_of_getElem? (i := 83) rfl))) (notFace_of_selects (args := #[]) (mvT hZ (hw _ (List.mem_of_getElem? (i := 85) rfl)))) (mvT hZ (hw _ (List.mem_of_getElem? (i := 85) rfl))) (mvT hZ (hw _ (List.mem_of_getElem? (i := 84) rfl))) (by decide) (backOf (W := 1) (rmCoder l Z a0 hw [] so zc h0 n0 Z0 P4 OLD P5 hzc) hZ (hw _ (List.mem_of_getElem? (i := 86) rfl)) (hw _ (List.mem_of_getElem? (i := 6) rfl)) (by decide) (by decide)) q8a q8c (g := (mkF m 11 #[.val (.ref sb), .val (.ref so)] [(.ref so), (.int (0 : Int32))])) rfl (by rw [hml]; rfl) (Steps.refl _) (argsL := []) (rest := [(.int (0 : Int32))]) (lenOf pd__28_29B rfl) rfl (by show 2 * 0 + _ ≤ _; exact Nat.le_of_eq rfl) (hb hby d16_11) (fun _ _ => ⟨rfl, e7, (by decide : 0 + 0 ≤ _), (by decide : 0 + 0 ≤ _)⟩)
  dsimp only [Pt.U, Pt.locs, Pt.cells, Pt.slots] at X8 l8 y8 z8 st8 hQ8
  rw [l8, y8, z8] at X8
  obtain ⟨rfl, Nq8, e8⟩ := hQ8
  have N8 := Fr.app N0 Nq8
  refine own_goT st8 ?_
  show ∃ t o, Steps p.tables e below (T8.setTop (mkF m 14 #[.val (.ref sb), .val (.ref so)] [(.int (0 : Int32)), (.int (0 : Int32))])) t ∧ _
  refine own_go (fun _ => XS.icmpYes X8.here hx rfl (pc0 := 14) (pc' := 21) rfl (hb hby d16_14) rfl (teq (by decide : (0 : Int32) = (0 : Int32))).1 (by decide) (by decide)) ?_
  show ∃ t o, Steps p.tables e below (T8.setTop (mkF m 21 #[.val (.ref sb), .val (.ref so)] [])) t ∧ _
  obtain ⟨fs, hr, hrun, hended, hW, hsame⟩ := X8.leave (v := none) (fun _ => rfl)
  refine ⟨_, _, ?_, hrun, hended, _, _, rfl, ?_, ⟨_, rfl⟩, hW, hsame.mono (by decide) (by decide)⟩
  · exact X8.returnOut hx Bd.returns (hb hby d16_21) hr
  · show Q_rmInf Z _ _ _ h0 n0 _ T8.heap _
    rw [e8]
    exact ⟨rfl, N8, rfl⟩
theorem ef_rmGb (m : MethodId) (x0 : Nat) (x1 : Nat) (x2 : Int32) (x3 : Int32) : entryFrame m #[(.ref x0), (.ref x1), (.int x2), (.int x3)] 4 = mkF m 0 #[.val (.ref x0), .val (.ref x1), .val (.int x2), .val (.int x3)] [] := by first | (simp [entryFrame, mkF, argsToLocals, Value.category]; done) | rfl
theorem d17_0 : decode jdk_42_method_147_code 0 = .ok (.aload_n 0, 1) := by decide +kernel
theorem d17_1 : decode jdk_42_method_147_code 1 = .ok (.invokevirtual 335, 3) := by decide +kernel
theorem d17_4 : decode jdk_42_method_147_code 4 = .ok (.iload_n 3, 1) := by decide +kernel
theorem d17_5 : decode jdk_42_method_147_code 5 = .ok (.if_icmp .ne 23, 3) := by decide +kernel
theorem d17_8 : decode jdk_42_method_147_code 8 = .ok (.aload_n 0, 1) := by decide +kernel
theorem d17_9 : decode jdk_42_method_147_code 9 = .ok (.getfield 9, 3) := by decide +kernel
theorem d17_12 : decode jdk_42_method_147_code 12 = .ok (.iconst 0, 1) := by decide +kernel
theorem d17_13 : decode jdk_42_method_147_code 13 = .ok (.aload_n 1, 1) := by decide +kernel
theorem d17_14 : decode jdk_42_method_147_code 14 = .ok (.iload_n 2, 1) := by decide +kernel
theorem d17_15 : decode jdk_42_method_147_code 15 = .ok (.iload_n 3, 1) := by decide +kernel
theorem d17_16 : decode jdk_42_method_147_code 16 = .ok (.ishl, 1) := by decide +kernel
theorem d17_17 : decode jdk_42_method_147_code 17 = .ok (.aload_n 0, 1) := by decide +kernel
theorem d17_18 : decode jdk_42_method_147_code 18 = .ok (.getfield 9, 3) := by decide +kernel
theorem d17_21 : decode jdk_42_method_147_code 21 = .ok (.arraylength, 1) := by decide +kernel
theorem d17_22 : decode jdk_42_method_147_code 22 = .ok (.invokestatic 212, 3) := by decide +kernel
theorem d17_25 : decode jdk_42_method_147_code 25 = .ok (.goto 18, 3) := by decide +kernel
theorem d17_43 : decode jdk_42_method_147_code 43 = .ok (.return_, 1) := by decide +kernel
def Q_rmGb (Z : State) (so : Nat) (tb : Nat) (kb : ClassId) (nn : Int32) (vs : List Value) (vb : Nat) (kv : ClassId) (us : List Value) (cn : Int32) (zc : Int32) (h0 : Heap) (n0 : Nat) (v : Option Value) (h : Heap) (L : List Loc) : Prop := v = none ∧ Fr n0 L ∧ Keep h0 h [vb] ∧ Arv Z h vb kv .byte (16 : Int32) (us ++ vs) (.int (0 : Int32))
set_option maxRecDepth 65536 in
set_option maxHeartbeats 40000000 in
theorem rmGb (l : Launch) (Z : State) (a0 : Array Value) (hw : ∀ d ∈ tables_1, d.before a0 Z = true) (ws : List Jvm.Cond) (so : Nat) (tb : Nat) (kb : ClassId) (nn : Int32) (vs : List Value) (vb : Nat) (kv : ClassId) (us : List Value) (cn : Int32) (zc : Int32) (h0 : Heap) (n0 : Nat) (Z0 : n0 ≤ h0.size) (P1 : Exa Z h0 so "java/lang/String") (P2 : Fld Z h0 so "java/lang/String" "value" "[B" (.ref tb)) (P3 : Fld Z h0 so "java/lang/String" "coder" "B" (.int (0 : Int32))) (P4 : Arv Z h0 tb kb .byte nn vs (.int (0 : Int32))) (P5 : Arv Z h0 vb kv .byte (16 : Int32) us (.int (0 : Int32))) (OLD : Old Z n0 h0) (P6 : Sta Z Z.heap "java/lang/String" "COMPACT_STRINGS" "Z" (.int zc)) (hzc : ¬ (zc = (0 : Int32))) (f1 : own_fit vs nn) (f2 : own_fit us cn) (hbn : us.length + vs.length ≤ 15) (gvb : n0 ≤ vb) :
    MetFree l (⟨"java/lang/String", "getBytes", "([BIB)V"⟩ : MethodName) (head1 (Jvm.Cond.code (⟨"java/lang/String", "getBytes", "([BIB)V"⟩ : MethodName) jdk_42_method_147_code 4 none :: ws) ({ frames := 1, cells := 0, slots := 0, locals := 18 } : Room)) (fun a U => a = #[(.ref so), (.ref vb), (.int cn), (.int (0 : Int32))] ∧ Z.Warmed39 U.vm ∧ U.heap = h0) (fun _ _ _ _ _ => True) (fun _ U o U' => ∃ v L, o = .returned v ∧ Q_rmGb Z so tb kb nn vs vb kv us cn zc h0 n0 v U'.heap L ∧ FrameEnd U o U' L ({ frames := 1, cells := 0, slots := 0, locals := 18 } : Room).cells ({ frames := 1, cells := 0, slots := 0, locals := 18 } : Room).slots) := by
  refine MetFree.of_bodySF (plainFor_of_name pn_java_lang_String) hisR ?_
  intro p e s m args below meth c s₁ Bd hml0 hP hK
  obtain ⟨rfl, hZ, hh⟩ := hP
  have hx := Bd.exec
  have hby := Bd.bytes
  have hml : c.maxLocals = 4 := hml0
  have hown : s.vm.findClass "java/lang/String" = some m.cls := findClass_of_methodNamed Bd.named
  have hnm := (name_of_methodNamed Bd.named Bd.method).1
  have X0 : Stand p l e ({ frames := 1, cells := 0, slots := 0, locals := 18 } : Room) s m #[(.ref so), (.ref vb), (.int cn), (.int (0 : Int32))] below meth c s₁ [] 0 0 := Stand.of_body Bd
  have e0 : s₁.heap = h0 := by rw [← hh, Bd.state]; rfl
  have N0 := Fr.nil n0
  have pre0 : ∀ t, Steps p.tables e below (s₁.setTop (mkF m 0 #[.val (.ref so), .val (.ref vb), .val (.int cn), .val (.int (0 : Int32))] [])) t → Steps p.tables e below (s₁.setTop (entryFrame m #[(.ref so), (.ref vb), (.int cn), (.int (0 : Int32))] 4)) t := fun t k => castTop (ef_rmGb m so vb cn (0 : Int32)) k
  have oz := OLD.1
  have lt_so : so < h0.size := P1.lt
  have lt_tb : tb < h0.size := P4.lt
  have lt_vb : vb < h0.size := P5.lt
  refine own_go (B := s₁.setTop (mkF m 0 #[.val (.ref so), .val (.ref vb), .val (.int cn), .val (.int (0 : Int32))] [])) pre0 ?_
  show ∃ t o, Steps p.tables e below (s₁.setTop (mkF m 0 #[.val (.ref so), .val (.ref vb), .val (.int cn), .val (.int (0 : Int32))] [])) t ∧ _
  refine own_go (fun _ => XS.aloadN X0.here hx rfl (hb hby d17_0) rfl rfl) ?_
  show ∃ t o, Steps p.tables e below (s₁.setTop (mkF m 1 #[.val (.ref so), .val (.ref vb), .val (.int cn), .val (.int (0 : Int32))] [(.ref so)])) t ∧ _
  obtain ⟨cq7, kq7, q7a, q7b, q7c⟩ := isOf hZ e0 P1
  obtain ⟨_, _, ⟨T7, L7, k7, n7⟩, -, X7, ⟨Lc7, hQ7, l7, y7, z7⟩, st7⟩ := X0.virtualBack hx (y := (⟨"java/lang/String", "coder", "()B"⟩ : MethodName)) (z := (⟨"java/lang/String", "coder", "()B"⟩ : MethodName)) hown (mvT hZ (hw _ (List.mem_of_getElem? (i := 82) rfl))) (mvT hZ (hw _ (List.mem_of_getElem? (i := 83) rfl))) (notFace_of_selects (args := #[]) (mvT hZ (hw _ (List.mem_of_getElem? (i := 85) rfl)))) (mvT hZ (hw _ (List.mem_of_getElem? (i := 85) rfl))) (mvT hZ (hw _ (List.mem_of_getElem? (i := 84) rfl))) (by decide) (backOf (W := 0) (rmCoder l Z a0 hw [] so zc h0 n0 Z0 P3 OLD P6 hzc) hZ (hw _ (List.mem_of_getElem? (i := 86) rfl)) (hw _ (List.mem_of_getElem? (i := 6) rfl)) (by decide) (by decide)) q7a q7c (g := (mkF m 1 #[.val (.ref so), .val (.ref vb), .val (.int cn), .val (.int (0 : Int32))] [(.ref so)])) rfl (by rw [hml]; rfl) (Steps.refl _) (argsL := []) (rest := []) (lenOf pd__28_29B rfl) rfl (by show 2 * 0 + _ ≤ _; exact Nat.le_of_eq rfl) (hb hby d17_1) (fun _ _ => ⟨rfl, e0, (by decide : 0 + 0 ≤ _), (by decide : 0 + 0 ≤ _)⟩)
  dsimp only [Pt.U, Pt.locs, Pt.cells, Pt.slots] at X7 l7 y7 z7 st7 hQ7
  rw [l7, y7, z7] at X7
  obtain ⟨rfl, Nq7, e7⟩ := hQ7
  have N7 := Fr.app N0 Nq7
  refine own_goT st7 ?_
  refine own_go (fun _ => XS.iloadN X7.here hx rfl (hb hby d17_4) rfl) ?_
  show ∃ t o, Steps p.tables e below (T7.setTop (mkF m 5 #[.val (.ref so), .val (.ref vb), .val (.int cn), .val (.int (0 : Int32))] [(.int (0 : Int32)), (.int (0 : Int32))])) t ∧ _
  refine own_go (fun _ => XS.icmpNo X7.here hx rfl (hb hby d17_5) rfl (teq (by decide : (0 : Int32) = (0 : Int32))).2) ?_
  refine own_go (fun _ => XS.aloadN X7.here hx rfl (hb hby d17_8) rfl rfl) ?_
  obtain ⟨T8, X8, e8, st8⟩ := getF X7 hx hZ hown (host := "") (Or.inl (hw _ (List.mem_of_getElem? (i := 24) rfl))) Via.refl e7 P2 (g := (mkF m 9 #[.val (.ref so), .val (.ref vb), .val (.int cn), .val (.int (0 : Int32))] [(.ref so)])) rfl rfl (hb hby d17_9)
  refine own_go st8 ?_
  show ∃ t o, Steps p.tables e below (T8.setTop (mkF m 12 #[.val (.ref so), .val (.ref vb), .val (.int cn), .val (.int (0 : Int32))] [(.ref tb)])) t ∧ _
  refine own_go (fun _ => XS.iconst X8.here hx rfl (hb hby d17_12)) ?_
  refine own_go (fun _ => XS.aloadN X8.here hx rfl (hb hby d17_13) rfl rfl) ?_
  refine own_go (fun _ => XS.iloadN X8.here hx rfl (hb hby d17_14) rfl) ?_
  show ∃ t o, Steps p.tables e below (T8.setTop (mkF m 15 #[.val (.ref so), .val (.ref vb), .val (.int cn), .val (.int (0 : Int32))] [(.int cn), (.ref vb), (.int (0 : Int32)), (.ref tb)])) t ∧ _
  refine own_go (fun _ => XS.iloadN X8.here hx rfl (hb hby d17_15) rfl) ?_
  refine own_go (fun _ => XS.ishl X8.here hx rfl (hb hby d17_16) rfl) ?_
  show ∃ t o, Steps p.tables e below (T8.setTop (mkF m 17 #[.val (.ref so), .val (.ref vb), .val (.int cn), .val (.int (0 : Int32))] [(.int (cn <<< ((0 : Int32) &&& 31))), (.ref vb), (.int (0 : Int32)), (.ref tb)])) t ∧ _
  rw [own_shl0]
  show ∃ t o, Steps p.tables e below (T8.setTop (mkF m 17 #[.val (.ref so), .val (.ref vb), .val (.int cn), .val (.int (0 : Int32))] [(.int cn), (.ref vb), (.int (0 : Int32)), (.ref tb)])) t ∧ _
  refine own_go (fun _ => XS.aloadN X8.here hx rfl (hb hby d17_17) rfl rfl) ?_
  obtain ⟨T9, X9, e9, st9⟩ := getF X8 hx hZ hown (host := "") (Or.inl (hw _ (List.mem_of_getElem? (i := 24) rfl))) Via.refl e8 P2 (g := (mkF m 18 #[.val (.ref so), .val (.ref vb), .val (.int cn), .val (.int (0 : Int32))] [(.ref so), (.int cn), (.ref vb), (.int (0 : Int32)), (.ref tb)])) rfl rfl (hb hby d17_18)
  refine own_go st9 ?_
  obtain ⟨cl10, Ar10, q10, S10, N10, H10, G10⟩ := id P4
  have ln10 : cl10.slots.size.toInt32 = nn := len_of S10 N10
  have al10 := X9.arraylength hx (by rw [e9]; exact Ar10.1) (State.isArrayOf_alike hZ.alike Ar10.2.1) (g := (mkF m 21 #[.val (.ref so), .val (.ref vb), .val (.int cn), .val (.int (0 : Int32))] [(.ref tb), (.int cn), (.ref vb), (.int (0 : Int32)), (.ref tb)])) rfl rfl (hb hby d17_21)
  rw [ln10] at al10
  refine own_go al10 ?_
  show ∃ t o, Steps p.tables e below (T9.setTop (mkF m 22 #[.val (.ref so), .val (.ref vb), .val (.int cn), .val (.int (0 : Int32))] [(.int nn), (.int cn), (.ref vb), (.int (0 : Int32)), (.ref tb)])) t ∧ _
  obtain ⟨T11, h11, L11, X11, e11, N11, Kp11, V11, st11⟩ := own_cp X9 hx hZ hown (hw _ (List.mem_of_getElem? (i := 111) rfl)) (hw _ (List.mem_of_getElem? (i := 114) rfl)) (hw _ (List.mem_of_getElem? (i := 112) rfl)) (hw _ (List.mem_of_getElem? (i := 113) rfl)) e9 P4 P5 f1 f2 (Nat.le_of_eq (own_fit.cl f1).symm) (Nat.le_trans hbn (by decide)) N7 gvb (g := (mkF m 22 #[.val (.ref so), .val (.ref vb), .val (.int cn), .val (.int (0 : Int32))] [(.int nn), (.int cn), (.ref vb), (.int (0 : Int32)), (.ref tb)])) rfl (by rw [hml]; rfl) rfl (hb hby d17_22) (by decide) (W := 0) (by show 2 * 0 + _ ≤ _; exact Nat.le_of_eq rfl) (by decide +kernel)
  refine own_go st11 ?_
  have le_11 : h0.size ≤ h11.size := Kp11.1
  have K11 : Keep h0 h11 [vb] := Keep.trans (Keep.refl h0 [vb]) Kp11 (allS (Or.inl (List.mem_of_getElem? (i := 0) rfl)) all0)
  refine own_go (fun _ => XS.goto X11.here hx rfl (pc0 := 25) (pc' := 43) rfl (hb hby d17_25) (by decide) (by decide)) ?_
  show ∃ t o, Steps p.tables e below (T11.setTop (mkF m 43 #[.val (.ref so), .val (.ref vb), .val (.int cn), .val (.int (0 : Int32))] [])) t ∧ _
  obtain ⟨fs, hr, hrun, hended, hW, hsame⟩ := X11.leave (v := none) (fun _ => rfl)
  refine ⟨_, _, ?_, hrun, hended, _, _, rfl, ?_, ⟨_, rfl⟩, hW, hsame.mono (by decide) (by decide)⟩
  · exact X11.returnOut hx Bd.returns (hb hby d17_43) hr
  · show Q_rmGb Z _ _ _ _ _ _ _ _ _ _ h0 n0 _ T11.heap _
    rw [e11]
    exact ⟨rfl, N11, K11, V11⟩
theorem ef_rmPut (m : MethodId) (x0 : Nat) (x1 : Int32) (x2 : Nat) : entryFrame m #[(.ref x0), (.int x1), (.ref x2)] 3 = mkF m 0 #[.val (.ref x0), .val (.int x1), .val (.ref x2)] [] := by first | (simp [entryFrame, mkF, argsToLocals, Value.category]; done) | rfl
theorem d15_0 : decode jdk_68_method_73_code 0 = .ok (.aload_n 0, 1) := by decide +kernel
theorem d15_1 : decode jdk_68_method_73_code 1 = .ok (.aload_n 2, 1) := by decide +kernel
theorem d15_2 : decode jdk_68_method_73_code 2 = .ok (.invokevirtual 397, 3) := by decide +kernel
theorem pd__28Ljava_2flang_2fString_3b_29V : parseMethodDescriptor "(Ljava/lang/String;)V" = some ⟨[(.object "java/lang/String")], none⟩ := by decide +kernel
theorem d15_5 : decode jdk_68_method_73_code 5 = .ok (.aload_n 2, 1) := by decide +kernel
theorem d15_6 : decode jdk_68_method_73_code 6 = .ok (.aload_n 0, 1) := by decide +kernel
theorem d15_7 : decode jdk_68_method_73_code 7 = .ok (.getfield 15, 3) := by decide +kernel
theorem d15_10 : decode jdk_68_method_73_code 10 = .ok (.iload_n 1, 1) := by decide +kernel
theorem d15_11 : decode jdk_68_method_73_code 11 = .ok (.aload_n 0, 1) := by decide +kernel
theorem d15_12 : decode jdk_68_method_73_code 12 = .ok (.getfield 22, 3) := by decide +kernel
theorem d15_15 : decode jdk_68_method_73_code 15 = .ok (.invokevirtual 399, 3) := by decide +kernel
theorem pd__28_5bBIB_29V : parseMethodDescriptor "([BIB)V" = some ⟨[(.array .byte), .int, .byte], none⟩ := by decide +kernel
theorem d15_18 : decode jdk_68_method_73_code 18 = .ok (.return_, 1) := by decide +kernel
def Q_rmPut (Z : State) (so : Nat) (tb : Nat) (kb : ClassId) (nn : Int32) (vs : List Value) (sb : Nat) (vb : Nat) (kv : ClassId) (us : List Value) (cn : Int32) (zc : Int32) (h0 : Heap) (n0 : Nat) (v : Option Value) (h : Heap) (L : List Loc) : Prop := v = none ∧ Fr n0 L ∧ Keep h0 h [vb] ∧ Arv Z h vb kv .byte (16 : Int32) (us ++ vs) (.int (0 : Int32))
set_option maxRecDepth 65536 in
set_option maxHeartbeats 40000000 in
theorem rmPut (l : Launch) (Z : State) (a0 : Array Value) (hw : ∀ d ∈ tables_1, d.before a0 Z = true) (ws : List Jvm.Cond) (so : Nat) (tb : Nat) (kb : ClassId) (nn : Int32) (vs : List Value) (sb : Nat) (vb : Nat) (kv : ClassId) (us : List Value) (cn : Int32) (zc : Int32) (h0 : Heap) (n0 : Nat) (Z0 : n0 ≤ h0.size) (P1 : Exa Z h0 so "java/lang/String") (P2 : Fld Z h0 so "java/lang/String" "value" "[B" (.ref tb)) (P3 : Fld Z h0 so "java/lang/String" "coder" "B" (.int (0 : Int32))) (P4 : Arv Z h0 tb kb .byte nn vs (.int (0 : Int32))) (P5 : Exa Z h0 sb "java/lang/StringBuilder") (P6 : Fld Z h0 sb "java/lang/AbstractStringBuilder" "value" "[B" (.ref vb)) (P7 : Fld Z h0 sb "java/lang/AbstractStringBuilder" "coder" "B" (.int (0 : Int32))) (P8 : Arv Z h0 vb kv .byte (16 : Int32) us (.int (0 : Int32))) (OLD : Old Z n0 h0) (P9 : Sta Z Z.heap "java/lang/String" "COMPACT_STRINGS" "Z" (.int zc)) (hzc : ¬ (zc = (0 : Int32))) (f1 : own_fit vs nn) (f2 : own_fit us cn) (hbn : us.length + vs.length ≤ 15) (gvb : n0 ≤ vb) :
    MetFree l (⟨"java/lang/AbstractStringBuilder", "putStringAt", "(ILjava/lang/String;)V"⟩ : MethodName) (head1 (Jvm.Cond.code (⟨"java/lang/AbstractStringBuilder", "putStringAt", "(ILjava/lang/String;)V"⟩ : MethodName) jdk_68_method_73_code 3 none :: ws) ({ frames := 2, cells := 0, slots := 0, locals := 33 } : Room)) (fun a U => a = #[(.ref sb), (.int cn), (.ref so)] ∧ Z.Warmed39 U.vm ∧ U.heap = h0) (fun _ _ _ _ _ => True) (fun _ U o U' => ∃ v L, o = .returned v ∧ Q_rmPut Z so tb kb nn vs sb vb kv us cn zc h0 n0 v U'.heap L ∧ FrameEnd U o U' L ({ frames := 2, cells := 0, slots := 0, locals := 33 } : Room).cells ({ frames := 2, cells := 0, slots := 0, locals := 33 } : Room).slots) := by
  refine MetFree.of_bodySF (plainFor_of_name pn_java_lang_AbstractStringBuilder) hisR ?_
  intro p e s m args below meth c s₁ Bd hml0 hP hK
  obtain ⟨rfl, hZ, hh⟩ := hP
  have hx := Bd.exec
  have hby := Bd.bytes
  have hml : c.maxLocals = 3 := hml0
  have hown : s.vm.findClass "java/lang/AbstractStringBuilder" = some m.cls := findClass_of_methodNamed Bd.named
  have hnm := (name_of_methodNamed Bd.named Bd.method).1
  have X0 : Stand p l e ({ frames := 2, cells := 0, slots := 0, locals := 33 } : Room) s m #[(.ref sb), (.int cn), (.ref so)] below meth c s₁ [] 0 0 := Stand.of_body Bd
  have e0 : s₁.heap = h0 := by rw [← hh, Bd.state]; rfl
  have N0 := Fr.nil n0
  have pre0 : ∀ t, Steps p.tables e below (s₁.setTop (mkF m 0 #[.val (.ref sb), .val (.int cn), .val (.ref so)] [])) t → Steps p.tables e below (s₁.setTop (entryFrame m #[(.ref sb), (.int cn), (.ref so)] 3)) t := fun t k => castTop (ef_rmPut m sb cn so) k
  have oz := OLD.1
  have lt_sb : sb < h0.size := P5.lt
  have lt_so : so < h0.size := P1.lt
  have lt_tb : tb < h0.size := P4.lt
  have lt_vb : vb < h0.size := P8.lt
  refine own_go (B := s₁.setTop (mkF m 0 #[.val (.ref sb), .val (.int cn), .val (.ref so)] [])) pre0 ?_
  show ∃ t o, Steps p.tables e below (s₁.setTop (mkF m 0 #[.val (.ref sb), .val (.int cn), .val (.ref so)] [])) t ∧ _
  refine own_go (fun _ => XS.aloadN X0.here hx rfl (hb hby d15_0) rfl rfl) ?_
  refine own_go (fun _ => XS.aloadN X0.here hx rfl (hb hby d15_1) rfl rfl) ?_
  show ∃ t o, Steps p.tables e below (s₁.setTop (mkF m 2 #[.val (.ref sb), .val (.int cn), .val (.ref so)] [(.ref so), (.ref sb)])) t ∧ _
  obtain ⟨cq10, q10, q10'⟩ := P5.cell
  obtain ⟨_, _, ⟨T10, L10, k10, n10⟩, -, X10, ⟨Lc10, hQ10, l10, y10, z10⟩, st10⟩ := X0.privateBack hx (y := (⟨"java/lang/AbstractStringBuilder", "inflateIfNeededFor", "(Ljava/lang/String;)V"⟩ : MethodName)) hown (mvT hZ (hw _ (List.mem_of_getElem? (i := 100) rfl))) (mvT hZ (hw _ (List.mem_of_getElem? (i := 101) rfl))) (mvT hZ (own_selp (y := (⟨"java/lang/AbstractStringBuilder", "inflateIfNeededFor", "(Ljava/lang/String;)V"⟩ : MethodName)) (hw _ (List.mem_of_getElem? (i := 93) rfl)) rfl (hw _ (List.mem_of_getElem? (i := 102) rfl)) (hw _ (List.mem_of_getElem? (i := 101) rfl)) (by decide))) (Cond.privateMethod_at (mvP hZ (hw _ (List.mem_of_getElem? (i := 102) rfl)) (args := #[]))) (mvT hZ (hw _ (List.mem_of_getElem? (i := 104) rfl))) (by decide) (backOf (W := 0) (rmInf l Z a0 hw [] sb so zc h0 n0 Z0 P5 P7 P1 P3 OLD P9 hzc) hZ (hw _ (List.mem_of_getElem? (i := 104) rfl)) (hw _ (List.mem_of_getElem? (i := 59) rfl)) (by decide) (by decide)) (g := (mkF m 2 #[.val (.ref sb), .val (.int cn), .val (.ref so)] [(.ref so), (.ref sb)])) rfl (by rw [hml]; rfl) (Steps.refl _) (a := sb) (by rw [e0]; exact q10) q10' (argsL := [(.ref so)]) (rest := []) (lenOf pd__28Ljava_2flang_2fString_3b_29V rfl) rfl (by show 2 * 0 + _ ≤ _; exact Nat.le_of_eq rfl) (hb hby d15_2) (fun _ _ => ⟨rfl, e0, (by decide : 0 + 0 ≤ _), (by decide : 0 + 0 ≤ _)⟩)
  dsimp only [Pt.U, Pt.locs, Pt.cells, Pt.slots] at X10 l10 y10 z10 st10 hQ10
  rw [l10, y10, z10] at X10
  obtain ⟨rfl, Nq10, e10⟩ := hQ10
  have N10 := Fr.app N0 Nq10
  refine own_goT st10 ?_
  refine own_go (fun _ => XS.aloadN X10.here hx rfl (hb hby d15_5) rfl rfl) ?_
  refine own_go (fun _ => XS.aloadN X10.here hx rfl (hb hby d15_6) rfl rfl) ?_
  show ∃ t o, Steps p.tables e below (T10.setTop (mkF m 7 #[.val (.ref sb), .val (.int cn), .val (.ref so)] [(.ref sb), (.ref so)])) t ∧ _
  obtain ⟨T11, X11, e11, st11⟩ := getF X10 hx hZ hown (host := "") (Or.inl (hw _ (List.mem_of_getElem? (i := 63) rfl))) Via.refl e10 P6 (g := (mkF m 7 #[.val (.ref sb), .val (.int cn), .val (.ref so)] [(.ref sb), (.ref so)])) rfl rfl (hb hby d15_7)
  refine own_go st11 ?_
  refine own_go (fun _ => XS.iloadN X11.here hx rfl (hb hby d15_10) rfl) ?_
  refine own_go (fun _ => XS.aloadN X11.here hx rfl (hb hby d15_11) rfl rfl) ?_
  show ∃ t o, Steps p.tables e below (T11.setTop (mkF m 12 #[.val (.ref sb), .val (.int cn), .val (.ref so)] [(.ref sb), (.int cn), (.ref vb), (.ref so)])) t ∧ _
  obtain ⟨T12, X12, e12, st12⟩ := getF X11 hx hZ hown (host := "") (Or.inl (hw _ (List.mem_of_getElem? (i := 65) rfl))) Via.refl e11 P7 (g := (mkF m 12 #[.val (.ref sb), .val (.int cn), .val (.ref so)] [(.ref sb), (.int cn), (.ref vb), (.ref so)])) rfl rfl (hb hby d15_12)
  refine own_go st12 ?_
  show ∃ t o, Steps p.tables e below (T12.setTop (mkF m 15 #[.val (.ref sb), .val (.int cn), .val (.ref so)] [(.int (0 : Int32)), (.int cn), (.ref vb), (.ref so)])) t ∧ _
  obtain ⟨cq13, kq13, q13a, q13b, q13c⟩ := isOf hZ e12 P1
  obtain ⟨_, _, ⟨T13, L13, k13, n13⟩, -, X13, ⟨Lc13, hQ13, l13, y13, z13⟩, st13⟩ := X12.virtualBack hx (y := (⟨"java/lang/String", "getBytes", "([BIB)V"⟩ : MethodName)) (z := (⟨"java/lang/String", "getBytes", "([BIB)V"⟩ : MethodName)) hown (mvT hZ (hw _ (List.mem_of_getElem? (i := 106) rfl))) (mvT hZ (hw _ (List.mem_of_getElem? (i := 107) rfl))) (notFace_of_selects (args := #[]) (mvT hZ (hw _ (List.mem_of_getElem? (i := 109) rfl)))) (mvT hZ (hw _ (List.mem_of_getElem? (i := 109) rfl))) (mvT hZ (hw _ (List.mem_of_getElem? (i := 108) rfl))) (by decide) (backOf (W := 0) (rmGb l Z a0 hw [] so tb kb nn vs vb kv us cn zc h0 n0 Z0 P1 P2 P3 P4 P8 OLD P9 hzc f1 f2 hbn gvb) hZ (hw _ (List.mem_of_getElem? (i := 110) rfl)) (hw _ (List.mem_of_getElem? (i := 6) rfl)) (by decide) (by decide)) q13a q13c (g := (mkF m 15 #[.val (.ref sb), .val (.int cn), .val (.ref so)] [(.int (0 : Int32)), (.int cn), (.ref vb), (.ref so)])) rfl (by rw [hml]; rfl) (Steps.refl _) (argsL := [(.ref vb), (.int cn), (.int (0 : Int32))]) (rest := []) (lenOf pd__28_5bBIB_29V rfl) rfl (by show 2 * 0 + _ ≤ _; exact Nat.le_of_eq rfl) (hb hby d15_15) (fun _ _ => ⟨rfl, e12, (by decide : 0 + 0 ≤ _), (by decide : 0 + 0 ≤ _)⟩)
  dsimp only [Pt.U, Pt.locs, Pt.cells, Pt.slots] at X13 l13 y13 z13 st13 hQ13
  rw [l13, y13, z13] at X13
  obtain ⟨rfl, Nq13, Kp13, G13_0⟩ := hQ13
  have N13 := Fr.app N10 Nq13
  refine own_goT st13 ?_
  have le_13 : h0.size ≤ T13.heap.size := Kp13.1
  have K13 : Keep h0 T13.heap [vb] := Keep.trans (Keep.refl h0 [vb]) Kp13 (allS (Or.inl (List.mem_of_getElem? (i := 0) rfl)) all0)
  show ∃ t o, Steps p.tables e below (T13.setTop (mkF m 18 #[.val (.ref sb), .val (.int cn), .val (.ref so)] [])) t ∧ _
  obtain ⟨fs, hr, hrun, hended, hW, hsame⟩ := X13.leave (v := none) (fun _ => rfl)
  refine ⟨_, _, ?_, hrun, hended, _, _, rfl, ?_, ⟨_, rfl⟩, hW, hsame.mono (by decide) (by decide)⟩
  · exact X13.returnOut hx Bd.returns (hb hby d15_18) hr
  · show Q_rmPut Z _ _ _ _ _ _ _ _ _ _ _ h0 n0 _ T13.heap _
    exact ⟨rfl, N13, K13, G13_0⟩
theorem ef_rmABa (m : MethodId) (x0 : Nat) (x1 : Nat) : entryFrame m #[(.ref x0), (.ref x1)] 3 = mkF m 0 #[.val (.ref x0), .val (.ref x1), .unset] [] := by first | (simp [entryFrame, mkF, argsToLocals, Value.category]; done) | rfl
theorem d11_0 : decode jdk_68_method_22_code 0 = .ok (.aload_n 1, 1) := by decide +kernel
theorem d11_1 : decode jdk_68_method_22_code 1 = .ok (.ifnonnull 8, 3) := by decide +kernel
theorem d11_9 : decode jdk_68_method_22_code 9 = .ok (.aload_n 1, 1) := by decide +kernel
theorem d11_10 : decode jdk_68_method_22_code 10 = .ok (.invokevirtual 32, 3) := by decide +kernel
theorem pd__28_29I : parseMethodDescriptor "()I" = some ⟨[], some .int⟩ := by decide +kernel
theorem d11_13 : decode jdk_68_method_22_code 13 = .ok (.istore_n 2, 1) := by decide +kernel
theorem d11_14 : decode jdk_68_method_22_code 14 = .ok (.aload_n 0, 1) := by decide +kernel
theorem d11_15 : decode jdk_68_method_22_code 15 = .ok (.aload_n 0, 1) := by decide +kernel
theorem d11_16 : decode jdk_68_method_22_code 16 = .ok (.getfield 79, 3) := by decide +kernel
theorem d11_19 : decode jdk_68_method_22_code 19 = .ok (.iload_n 2, 1) := by decide +kernel
theorem d11_20 : decode jdk_68_method_22_code 20 = .ok (.iadd, 1) := by decide +kernel
theorem d11_21 : decode jdk_68_method_22_code 21 = .ok (.invokevirtual 100, 3) := by decide +kernel
theorem d11_24 : decode jdk_68_method_22_code 24 = .ok (.aload_n 0, 1) := by decide +kernel
theorem d11_25 : decode jdk_68_method_22_code 25 = .ok (.aload_n 0, 1) := by decide +kernel
theorem d11_26 : decode jdk_68_method_22_code 26 = .ok (.getfield 79, 3) := by decide +kernel
theorem d11_29 : decode jdk_68_method_22_code 29 = .ok (.aload_n 1, 1) := by decide +kernel
theorem d11_30 : decode jdk_68_method_22_code 30 = .ok (.invokevirtual 208, 3) := by decide +kernel
theorem pd__28ILjava_2flang_2fString_3b_29V : parseMethodDescriptor "(ILjava/lang/String;)V" = some ⟨[.int, (.object "java/lang/String")], none⟩ := by decide +kernel
theorem d11_33 : decode jdk_68_method_22_code 33 = .ok (.aload_n 0, 1) := by decide +kernel
theorem d11_34 : decode jdk_68_method_22_code 34 = .ok (.dup, 1) := by decide +kernel
theorem d11_35 : decode jdk_68_method_22_code 35 = .ok (.getfield 79, 3) := by decide +kernel
theorem d11_38 : decode jdk_68_method_22_code 38 = .ok (.iload_n 2, 1) := by decide +kernel
theorem d11_39 : decode jdk_68_method_22_code 39 = .ok (.iadd, 1) := by decide +kernel
theorem d11_40 : decode jdk_68_method_22_code 40 = .ok (.putfield 79, 3) := by decide +kernel
theorem d11_43 : decode jdk_68_method_22_code 43 = .ok (.aload_n 0, 1) := by decide +kernel
theorem d11_44 : decode jdk_68_method_22_code 44 = .ok (.areturn, 1) := by decide +kernel
def Q_rmABa (Z : State) (so : Nat) (tb : Nat) (kb : ClassId) (nn : Int32) (vs : List Value) (sb : Nat) (vb : Nat) (kv : ClassId) (us : List Value) (cn : Int32) (zc : Int32) (h0 : Heap) (n0 : Nat) (v : Option Value) (h : Heap) (L : List Loc) : Prop := v = some (.ref sb) ∧ Fr n0 L ∧ Keep h0 h [sb, vb] ∧ Exa Z h sb "java/lang/StringBuilder" ∧ Fld Z h sb "java/lang/AbstractStringBuilder" "value" "[B" (.ref vb) ∧ Fld Z h sb "java/lang/AbstractStringBuilder" "coder" "B" (.int (0 : Int32)) ∧ Fld Z h sb "java/lang/AbstractStringBuilder" "count" "I" (.int (cn + nn)) ∧ Arv Z h vb kv .byte (16 : Int32) (us ++ vs) (.int (0 : Int32))
set_option maxRecDepth 65536 in
set_option maxHeartbeats 40000000 in
theorem rmABa (l : Launch) (Z : State) (a0 : Array Value) (hw : ∀ d ∈ tables_1, d.before a0 Z = true) (ws : List Jvm.Cond) (so : Nat) (tb : Nat) (kb : ClassId) (nn : Int32) (vs : List Value) (sb : Nat) (vb : Nat) (kv : ClassId) (us : List Value) (cn : Int32) (zc : Int32) (h0 : Heap) (n0 : Nat) (Z0 : n0 ≤ h0.size) (P1 : Exa Z h0 so "java/lang/String") (P2 : Fld Z h0 so "java/lang/String" "value" "[B" (.ref tb)) (P3 : Fld Z h0 so "java/lang/String" "coder" "B" (.int (0 : Int32))) (P4 : Arv Z h0 tb kb .byte nn vs (.int (0 : Int32))) (P5 : Exa Z h0 sb "java/lang/StringBuilder") (P6 : Fld Z h0 sb "java/lang/AbstractStringBuilder" "value" "[B" (.ref vb)) (P7 : Fld Z h0 sb "java/lang/AbstractStringBuilder" "coder" "B" (.int (0 : Int32))) (P8 : Fld Z h0 sb "java/lang/AbstractStringBuilder" "count" "I" (.int cn)) (P9 : Arv Z h0 vb kv .byte (16 : Int32) us (.int (0 : Int32))) (OLD : Old Z n0 h0) (P10 : Sta Z Z.heap "java/lang/String" "COMPACT_STRINGS" "Z" (.int zc)) (hzc : ¬ (zc = (0 : Int32))) (f1 : own_fit vs nn) (f2 : own_fit us cn) (hbn : us.length + vs.length ≤ 15) (gvb : n0 ≤ vb) (gsb : n0 ≤ sb) (hne : sb ≠ vb) :
    MetFree l (⟨"java/lang/AbstractStringBuilder", "append", "(Ljava/lang/String;)Ljava/lang/AbstractStringBuilder;"⟩ : MethodName) (head1 (Jvm.Cond.code (⟨"java/lang/AbstractStringBuilder", "append", "(Ljava/lang/String;)Ljava/lang/AbstractStringBuilder;"⟩ : MethodName) jdk_68_method_22_code 3 (some (.object "java/lang/AbstractStringBuilder")) :: ws) ({ frames := 3, cells := 0, slots := 0, locals := 47 } : Room)) (fun a U => a = #[(.ref sb), (.ref so)] ∧ Z.Warmed39 U.vm ∧ U.heap = h0) (fun _ _ _ _ _ => True) (fun _ U o U' => ∃ v L, o = .returned v ∧ Q_rmABa Z so tb kb nn vs sb vb kv us cn zc h0 n0 v U'.heap L ∧ FrameEnd U o U' L ({ frames := 3, cells := 0, slots := 0, locals := 47 } : Room).cells ({ frames := 3, cells := 0, slots := 0, locals := 47 } : Room).slots) := by
  refine MetFree.of_bodySF (plainFor_of_name pn_java_lang_AbstractStringBuilder) hisR ?_
  intro p e s m args below meth c s₁ Bd hml0 hP hK
  obtain ⟨rfl, hZ, hh⟩ := hP
  have hx := Bd.exec
  have hby := Bd.bytes
  have hml : c.maxLocals = 3 := hml0
  have hown : s.vm.findClass "java/lang/AbstractStringBuilder" = some m.cls := findClass_of_methodNamed Bd.named
  have hnm := (name_of_methodNamed Bd.named Bd.method).1
  have X0 : Stand p l e ({ frames := 3, cells := 0, slots := 0, locals := 47 } : Room) s m #[(.ref sb), (.ref so)] below meth c s₁ [] 0 0 := Stand.of_body Bd
  have e0 : s₁.heap = h0 := by rw [← hh, Bd.state]; rfl
  have N0 := Fr.nil n0
  have pre0 : ∀ t, Steps p.tables e below (s₁.setTop (mkF m 0 #[.val (.ref sb), .val (.ref so), .unset] [])) t → Steps p.tables e below (s₁.setTop (entryFrame m #[(.ref sb), (.ref so)] 3)) t := fun t k => castTop (ef_rmABa m sb so) k
  have oz := OLD.1
  have lt_sb : sb < h0.size := P5.lt
  have lt_so : so < h0.size := P1.lt
  have lt_tb : tb < h0.size := P4.lt
  have lt_vb : vb < h0.size := P9.lt
  refine own_go (B := s₁.setTop (mkF m 0 #[.val (.ref sb), .val (.ref so), .unset] [])) pre0 ?_
  show ∃ t o, Steps p.tables e below (s₁.setTop (mkF m 0 #[.val (.ref sb), .val (.ref so), .unset] [])) t ∧ _
  refine own_go (fun _ => XS.aloadN X0.here hx rfl (hb hby d11_0) rfl rfl) ?_
  show ∃ t o, Steps p.tables e below (s₁.setTop (mkF m 1 #[.val (.ref sb), .val (.ref so), .unset] [(.ref so)])) t ∧ _
  refine own_go (fun _ => XS.ifnonnullYes X0.here hx rfl (pc0 := 1) (pc' := 9) rfl (hb hby d11_1) rfl (by decide) (by decide)) ?_
  refine own_go (fun _ => XS.aloadN X0.here hx rfl (hb hby d11_9) rfl rfl) ?_
  show ∃ t o, Steps p.tables e below (s₁.setTop (mkF m 10 #[.val (.ref sb), .val (.ref so), .unset] [(.ref so)])) t ∧ _
  obtain ⟨cq11, kq11, q11a, q11b, q11c⟩ := isOf hZ e0 P1
  obtain ⟨_, _, ⟨T11, L11, k11, n11⟩, -, X11, ⟨Lc11, hQ11, l11, y11, z11⟩, st11⟩ := X0.virtualBack hx (y := (⟨"java/lang/String", "length", "()I"⟩ : MethodName)) (z := (⟨"java/lang/String", "length", "()I"⟩ : MethodName)) hown (mvT hZ (hw _ (List.mem_of_getElem? (i := 77) rfl))) (mvT hZ (hw _ (List.mem_of_getElem? (i := 78) rfl))) (notFace_of_selects (args := #[]) (mvT hZ (hw _ (List.mem_of_getElem? (i := 80) rfl)))) (mvT hZ (hw _ (List.mem_of_getElem? (i := 80) rfl))) (mvT hZ (hw _ (List.mem_of_getElem? (i := 79) rfl))) (by decide) (backOf (W := 0) (rmLenG l Z a0 hw [] so tb kb nn vs zc h0 n0 Z0 P1 P2 P3 P4 OLD P10 hzc) hZ (hw _ (List.mem_of_getElem? (i := 81) rfl)) (hw _ (List.mem_of_getElem? (i := 6) rfl)) (by decide) (by decide)) q11a q11c (g := (mkF m 10 #[.val (.ref sb), .val (.ref so), .unset] [(.ref so)])) rfl (by rw [hml]; rfl) (Steps.refl _) (argsL := []) (rest := []) (lenOf pd__28_29I rfl) rfl (by show 2 * 0 + _ ≤ _; exact Nat.le_of_eq rfl) (hb hby d11_10) (fun _ _ => ⟨rfl, e0, (by decide : 0 + 0 ≤ _), (by decide : 0 + 0 ≤ _)⟩)
  dsimp only [Pt.U, Pt.locs, Pt.cells, Pt.slots] at X11 l11 y11 z11 st11 hQ11
  rw [l11, y11, z11] at X11
  obtain ⟨rfl, Nq11, e11⟩ := hQ11
  have N11 := Fr.app N0 Nq11
  refine own_goT st11 ?_
  refine own_go (fun _ => XS.istoreN X11.here hx rfl (hb hby d11_13) rfl (l' := #[.val (.ref sb), .val (.ref so), .val (.int nn)]) rfl) ?_
  refine own_go (fun _ => XS.aloadN X11.here hx rfl (hb hby d11_14) rfl rfl) ?_
  show ∃ t o, Steps p.tables e below (T11.setTop (mkF m 15 #[.val (.ref sb), .val (.ref so), .val (.int nn)] [(.ref sb)])) t ∧ _
  refine own_go (fun _ => XS.aloadN X11.here hx rfl (hb hby d11_15) rfl rfl) ?_
  obtain ⟨T12, X12, e12, st12⟩ := getF X11 hx hZ hown (host := "") (Or.inl (hw _ (List.mem_of_getElem? (i := 88) rfl))) Via.refl e11 P8 (g := (mkF m 16 #[.val (.ref sb), .val (.ref so), .val (.int nn)] [(.ref sb), (.ref sb)])) rfl rfl (hb hby d11_16)
  refine own_go st12 ?_
  refine own_go (fun _ => XS.iloadN X12.here hx rfl (hb hby d11_19) rfl) ?_
  show ∃ t o, Steps p.tables e below (T12.setTop (mkF m 20 #[.val (.ref sb), .val (.ref so), .val (.int nn)] [(.int nn), (.int cn), (.ref sb)])) t ∧ _
  refine own_go (fun _ => XS.iadd X12.here hx rfl (hb hby d11_20) rfl) ?_
  show ∃ t o, Steps p.tables e below (T12.setTop (mkF m 21 #[.val (.ref sb), .val (.ref so), .val (.int nn)] [(.int (cn + nn)), (.ref sb)])) t ∧ _
  obtain ⟨cq13, q13, q13'⟩ := P5.cell
  obtain ⟨_, _, ⟨T13, L13, k13, n13⟩, -, X13, ⟨Lc13, hQ13, l13, y13, z13⟩, st13⟩ := X12.privateBack hx (y := (⟨"java/lang/AbstractStringBuilder", "ensureCapacityInternal", "(I)V"⟩ : MethodName)) hown (mvT hZ (hw _ (List.mem_of_getElem? (i := 90) rfl))) (mvT hZ (hw _ (List.mem_of_getElem? (i := 91) rfl))) (mvT hZ (own_selp (y := (⟨"java/lang/AbstractStringBuilder", "ensureCapacityInternal", "(I)V"⟩ : MethodName)) (hw _ (List.mem_of_getElem? (i := 93) rfl)) rfl (hw _ (List.mem_of_getElem? (i := 92) rfl)) (hw _ (List.mem_of_getElem? (i := 91) rfl)) (by decide))) (Cond.privateMethod_at (mvP hZ (hw _ (List.mem_of_getElem? (i := 92) rfl)) (args := #[]))) (mvT hZ (hw _ (List.mem_of_getElem? (i := 94) rfl))) (by decide) (backOf (W := 0) (rmEns l Z a0 hw [] sb vb kv us (cn + nn) h0 n0 Z0 P5 P6 P7 P9 OLD (own_fit.cap f2 f1 (by omega) : ¬ ((0 : Int32) < ((cn + nn) - (16 : Int32))))) hZ (hw _ (List.mem_of_getElem? (i := 94) rfl)) (hw _ (List.mem_of_getElem? (i := 59) rfl)) (by decide) (by decide)) (g := (mkF m 21 #[.val (.ref sb), .val (.ref so), .val (.int nn)] [(.int (cn + nn)), (.ref sb)])) rfl (by rw [hml]; rfl) (Steps.refl _) (a := sb) (by rw [e12]; exact q13) q13' (argsL := [(.int (cn + nn))]) (rest := []) (lenOf pd__28I_29V rfl) rfl (by show 2 * 0 + _ ≤ _; exact Nat.le_of_eq rfl) (hb hby d11_21) (fun _ _ => ⟨rfl, e12, (by decide : 0 + 0 ≤ _), (by decide : 0 + 0 ≤ _)⟩)
  dsimp only [Pt.U, Pt.locs, Pt.cells, Pt.slots] at X13 l13 y13 z13 st13 hQ13
  rw [l13, y13, z13] at X13
  obtain ⟨rfl, Nq13, e13⟩ := hQ13
  have N13 := Fr.app N11 Nq13
  refine own_goT st13 ?_
  refine own_go (fun _ => XS.aloadN X13.here hx rfl (hb hby d11_24) rfl rfl) ?_
  refine own_go (fun _ => XS.aloadN X13.here hx rfl (hb hby d11_25) rfl rfl) ?_
  show ∃ t o, Steps p.tables e below (T13.setTop (mkF m 26 #[.val (.ref sb), .val (.ref so), .val (.int nn)] [(.ref sb), (.ref sb)])) t ∧ _
  obtain ⟨T14, X14, e14, st14⟩ := getF X13 hx hZ hown (host := "") (Or.inl (hw _ (List.mem_of_getElem? (i := 88) rfl))) Via.refl e13 P8 (g := (mkF m 26 #[.val (.ref sb), .val (.ref so), .val (.int nn)] [(.ref sb), (.ref sb)])) rfl rfl (hb hby d11_26)
  refine own_go st14 ?_
  refine own_go (fun _ => XS.aloadN X14.here hx rfl (hb hby d11_29) rfl rfl) ?_
  show ∃ t o, Steps p.tables e below (T14.setTop (mkF m 30 #[.val (.ref sb), .val (.ref so), .val (.int nn)] [(.ref so), (.int cn), (.ref sb)])) t ∧ _
  obtain ⟨cq15, q15, q15'⟩ := P5.cell
  obtain ⟨_, _, ⟨T15, L15, k15, n15⟩, -, X15, ⟨Lc15, hQ15, l15, y15, z15⟩, st15⟩ := X14.privateBack hx (y := (⟨"java/lang/AbstractStringBuilder", "putStringAt", "(ILjava/lang/String;)V"⟩ : MethodName)) hown (mvT hZ (hw _ (List.mem_of_getElem? (i := 95) rfl))) (mvT hZ (hw _ (List.mem_of_getElem? (i := 96) rfl))) (mvT hZ (own_selp (y := (⟨"java/lang/AbstractStringBuilder", "putStringAt", "(ILjava/lang/String;)V"⟩ : MethodName)) (hw _ (List.mem_of_getElem? (i := 93) rfl)) rfl (hw _ (List.mem_of_getElem? (i := 97) rfl)) (hw _ (List.mem_of_getElem? (i := 96) rfl)) (by decide))) (Cond.privateMethod_at (mvP hZ (hw _ (List.mem_of_getElem? (i := 97) rfl)) (args := #[]))) (mvT hZ (hw _ (List.mem_of_getElem? (i := 99) rfl))) (by decide) (backOf (W := 0) (rmPut l Z a0 hw [] so tb kb nn vs sb vb kv us cn zc h0 n0 Z0 P1 P2 P3 P4 P5 P6 P7 P9 OLD P10 hzc f1 f2 hbn gvb) hZ (hw _ (List.mem_of_getElem? (i := 99) rfl)) (hw _ (List.mem_of_getElem? (i := 59) rfl)) (by decide) (by decide)) (g := (mkF m 30 #[.val (.ref sb), .val (.ref so), .val (.int nn)] [(.ref so), (.int cn), (.ref sb)])) rfl (by rw [hml]; rfl) (Steps.refl _) (a := sb) (by rw [e14]; exact q15) q15' (argsL := [(.int cn), (.ref so)]) (rest := []) (lenOf pd__28ILjava_2flang_2fString_3b_29V rfl) rfl (by show 2 * 0 + _ ≤ _; exact Nat.le_of_eq rfl) (hb hby d11_30) (fun _ _ => ⟨rfl, e14, (by decide : 0 + 0 ≤ _), (by decide : 0 + 0 ≤ _)⟩)
  dsimp only [Pt.U, Pt.locs, Pt.cells, Pt.slots] at X15 l15 y15 z15 st15 hQ15
  rw [l15, y15, z15] at X15
  obtain ⟨rfl, Nq15, Kp15, G15_0⟩ := hQ15
  have N15 := Fr.app N13 Nq15
  refine own_goT st15 ?_
  have le_15 : h0.size ≤ T15.heap.size := Kp15.1
  have K15 : Keep h0 T15.heap [sb, vb] := Keep.trans (Keep.refl h0 [sb, vb]) Kp15 (allS (Or.inl (List.mem_of_getElem? (i := 1) rfl)) all0)
  refine own_go (fun _ => XS.aloadN X15.here hx rfl (hb hby d11_33) rfl rfl) ?_
  refine own_go (fun _ => XS.dup X15.here hx rfl (hb hby d11_34) rfl rfl) ?_
  show ∃ t o, Steps p.tables e below (T15.setTop (mkF m 35 #[.val (.ref sb), .val (.ref so), .val (.int nn)] [(.ref sb), (.ref sb)])) t ∧ _
  have F16 : Fld Z T15.heap sb "java/lang/AbstractStringBuilder" "count" "I" (.int cn) := (Fld.keep P8 Kp15 (ninS hne nin0))
  obtain ⟨T17, X17, e17, st17⟩ := getF X15 hx hZ hown (host := "") (Or.inl (hw _ (List.mem_of_getElem? (i := 88) rfl))) Via.refl rfl F16 (g := (mkF m 35 #[.val (.ref sb), .val (.ref so), .val (.int nn)] [(.ref sb), (.ref sb)])) rfl rfl (hb hby d11_35)
  refine own_go st17 ?_
  refine own_go (fun _ => XS.iloadN X17.here hx rfl (hb hby d11_38) rfl) ?_
  refine own_go (fun _ => XS.iadd X17.here hx rfl (hb hby d11_39) rfl) ?_
  show ∃ t o, Steps p.tables e below (T17.setTop (mkF m 40 #[.val (.ref sb), .val (.ref so), .val (.int nn)] [(.int (cn + nn)), (.ref sb)])) t ∧ _
  have F18 : Exa Z T15.heap sb "java/lang/StringBuilder" := (Exa.keep P5 Kp15)
  obtain ⟨T19, h19, X19, e19, W19, st19⟩ := putF X17 hx hZ hown (host := "") (Or.inl (hw _ (List.mem_of_getElem? (i := 88) rfl))) Via.refl e17 F16 F18 (Or.inl (hw _ (List.mem_of_getElem? (i := 89) rfl))) (hw _ (List.mem_of_getElem? (i := 50) rfl)) (ty := .int) (by decide) rfl rfl (g := (mkF m 40 #[.val (.ref sb), .val (.ref so), .val (.int nn)] [(.int (cn + nn)), (.ref sb)])) rfl rfl (hb hby d11_40)
  refine own_go st19 ?_
  have le_19 : T15.heap.size ≤ h19.size := Nat.le_of_eq W19.size.symm
  have K19 : Keep h0 h19 [sb, vb] := Keep.wr K15 W19 (Or.inl (List.mem_of_getElem? (i := 0) rfl))
  have N19 := Fr.snoc X19 N15 gsb
  have Fw19 := Fld.same W19 F16
  refine own_go (fun _ => XS.aloadN X19.here hx rfl (hb hby d11_43) rfl rfl) ?_
  show ∃ t o, Steps p.tables e below (T19.setTop (mkF m 44 #[.val (.ref sb), .val (.ref so), .val (.int nn)] [(.ref sb)])) t ∧ _
  have F20 : Exa Z h19 sb "java/lang/StringBuilder" := (Exa.wr W19 F18)
  have F21 : Fld Z h19 sb "java/lang/AbstractStringBuilder" "value" "[B" (.ref vb) := (Fld.other W19 (Fld.keep P6 Kp15 (ninS hne nin0)) (Or.inr (slot_ne (a0 := a0) (Or.inl (hw _ (List.mem_of_getElem? (i := 64) rfl))) (Or.inl (hw _ (List.mem_of_getElem? (i := 89) rfl))) (by decide) (t := (.array .byte)) (t' := .int) (by decide) (by decide))))
  have F22 : Fld Z h19 sb "java/lang/AbstractStringBuilder" "coder" "B" (.int (0 : Int32)) := (Fld.other W19 (Fld.keep P7 Kp15 (ninS hne nin0)) (Or.inr (slot_ne (a0 := a0) (Or.inl (hw _ (List.mem_of_getElem? (i := 66) rfl))) (Or.inl (hw _ (List.mem_of_getElem? (i := 89) rfl))) (by decide) (t := .byte) (t' := .int) (by decide) (by decide))))
  have ne23 : vb ≠ sb := own_ne (by omega)
  have F24 : Arv Z h19 vb kv .byte (16 : Int32) (us ++ vs) (.int (0 : Int32)) := (Arv.other G15_0 W19 ne23)
  obtain ⟨fs, hr, hrun, hended, hW, hsame⟩ := X19.leave (v := some (.ref sb)) (fun h => by rw [Bd.returns] at h; cases h)
  refine ⟨_, _, ?_, hrun, hended, _, _, rfl, ?_, ⟨_, rfl⟩, hW, hsame.mono (by decide) (by decide)⟩
  · jvm_step X19.here [X19.here.top, hx, (hb hby d11_44), X19.method', Bd.returns, Value.isRef, FieldType.isReference]
    first | (intro acts; rw [hr _ acts rfl rfl rfl]) | rw [hr _ _ rfl rfl rfl]
    exact Steps.refl _
  · show Q_rmABa Z _ _ _ _ _ _ _ _ _ _ _ h0 n0 _ T19.heap _
    rw [e19]
    exact ⟨rfl, N19, K19, F20, F21, F22, Fw19, F24⟩
theorem ef_rmSBa (m : MethodId) (x0 : Nat) (x1 : Nat) : entryFrame m #[(.ref x0), (.ref x1)] 2 = mkF m 0 #[.val (.ref x0), .val (.ref x1)] [] := by first | (simp [entryFrame, mkF, argsToLocals, Value.category]; done) | rfl
theorem d10_0 : decode jdk_67_method_7_code 0 = .ok (.aload_n 0, 1) := by decide +kernel
theorem d10_1 : decode jdk_67_method_7_code 1 = .ok (.aload_n 1, 1) := by decide +kernel
theorem d10_2 : decode jdk_67_method_7_code 2 = .ok (.invokespecial 29, 3) := by decide +kernel
theorem pd_h496c0e57 : parseMethodDescriptor "(Ljava/lang/String;)Ljava/lang/AbstractStringBuilder;" = some ⟨[(.object "java/lang/String")], some (.object "java/lang/AbstractStringBuilder")⟩ := by decide +kernel
theorem d10_5 : decode jdk_67_method_7_code 5 = .ok (.pop, 1) := by decide +kernel
theorem d10_6 : decode jdk_67_method_7_code 6 = .ok (.aload_n 0, 1) := by decide +kernel
theorem d10_7 : decode jdk_67_method_7_code 7 = .ok (.areturn, 1) := by decide +kernel
def Q_rmSBa (Z : State) (so : Nat) (tb : Nat) (kb : ClassId) (nn : Int32) (vs : List Value) (sb : Nat) (vb : Nat) (kv : ClassId) (us : List Value) (cn : Int32) (zc : Int32) (h0 : Heap) (n0 : Nat) (v : Option Value) (h : Heap) (L : List Loc) : Prop := v = some (.ref sb) ∧ Fr n0 L ∧ Keep h0 h [sb, vb] ∧ Exa Z h sb "java/lang/StringBuilder" ∧ Fld Z h sb "java/lang/AbstractStringBuilder" "value" "[B" (.ref vb) ∧ Fld Z h sb "java/lang/AbstractStringBuilder" "coder" "B" (.int (0 : Int32)) ∧ Fld Z h sb "java/lang/AbstractStringBuilder" "count" "I" (.int (cn + nn)) ∧ Arv Z h vb kv .byte (16 : Int32) (us ++ vs) (.int (0 : Int32))
set_option maxRecDepth 65536 in
set_option maxHeartbeats 40000000 in
theorem rmSBa (l : Launch) (Z : State) (a0 : Array Value) (hw : ∀ d ∈ tables_1, d.before a0 Z = true) (ws : List Jvm.Cond) (so : Nat) (tb : Nat) (kb : ClassId) (nn : Int32) (vs : List Value) (sb : Nat) (vb : Nat) (kv : ClassId) (us : List Value) (cn : Int32) (zc : Int32) (h0 : Heap) (n0 : Nat) (Z0 : n0 ≤ h0.size) (P1 : Exa Z h0 so "java/lang/String") (P2 : Fld Z h0 so "java/lang/String" "value" "[B" (.ref tb)) (P3 : Fld Z h0 so "java/lang/String" "coder" "B" (.int (0 : Int32))) (P4 : Arv Z h0 tb kb .byte nn vs (.int (0 : Int32))) (P5 : Exa Z h0 sb "java/lang/StringBuilder") (P6 : Fld Z h0 sb "java/lang/AbstractStringBuilder" "value" "[B" (.ref vb)) (P7 : Fld Z h0 sb "java/lang/AbstractStringBuilder" "coder" "B" (.int (0 : Int32))) (P8 : Fld Z h0 sb "java/lang/AbstractStringBuilder" "count" "I" (.int cn)) (P9 : Arv Z h0 vb kv .byte (16 : Int32) us (.int (0 : Int32))) (OLD : Old Z n0 h0) (P10 : Sta Z Z.heap "java/lang/String" "COMPACT_STRINGS" "Z" (.int zc)) (hzc : ¬ (zc = (0 : Int32))) (f1 : own_fit vs nn) (f2 : own_fit us cn) (hbn : us.length + vs.length ≤ 15) (gvb : n0 ≤ vb) (gsb : n0 ≤ sb) (hne : sb ≠ vb) :
    MetFree l (⟨"java/lang/StringBuilder", "append", "(Ljava/lang/String;)Ljava/lang/StringBuilder;"⟩ : MethodName) (head1 (Jvm.Cond.code (⟨"java/lang/StringBuilder", "append", "(Ljava/lang/String;)Ljava/lang/StringBuilder;"⟩ : MethodName) jdk_67_method_7_code 2 (some (.object "java/lang/StringBuilder")) :: ws) ({ frames := 4, cells := 0, slots := 0, locals := 61 } : Room)) (fun a U => a = #[(.ref sb), (.ref so)] ∧ Z.Warmed39 U.vm ∧ U.heap = h0) (fun _ _ _ _ _ => True) (fun _ U o U' => ∃ v L, o = .returned v ∧ Q_rmSBa Z so tb kb nn vs sb vb kv us cn zc h0 n0 v U'.heap L ∧ FrameEnd U o U' L ({ frames := 4, cells := 0, slots := 0, locals := 61 } : Room).cells ({ frames := 4, cells := 0, slots := 0, locals := 61 } : Room).slots) := by
  refine MetFree.of_bodySF (plainFor_of_name pn_java_lang_StringBuilder) hisR ?_
  intro p e s m args below meth c s₁ Bd hml0 hP hK
  obtain ⟨rfl, hZ, hh⟩ := hP
  have hx := Bd.exec
  have hby := Bd.bytes
  have hml : c.maxLocals = 2 := hml0
  have hown : s.vm.findClass "java/lang/StringBuilder" = some m.cls := findClass_of_methodNamed Bd.named
  have hnm := (name_of_methodNamed Bd.named Bd.method).1
  have X0 : Stand p l e ({ frames := 4, cells := 0, slots := 0, locals := 61 } : Room) s m #[(.ref sb), (.ref so)] below meth c s₁ [] 0 0 := Stand.of_body Bd
  have e0 : s₁.heap = h0 := by rw [← hh, Bd.state]; rfl
  have N0 := Fr.nil n0
  have pre0 : ∀ t, Steps p.tables e below (s₁.setTop (mkF m 0 #[.val (.ref sb), .val (.ref so)] [])) t → Steps p.tables e below (s₁.setTop (entryFrame m #[(.ref sb), (.ref so)] 2)) t := fun t k => castTop (ef_rmSBa m sb so) k
  have oz := OLD.1
  have lt_sb : sb < h0.size := P5.lt
  have lt_so : so < h0.size := P1.lt
  have lt_tb : tb < h0.size := P4.lt
  have lt_vb : vb < h0.size := P9.lt
  refine own_go (B := s₁.setTop (mkF m 0 #[.val (.ref sb), .val (.ref so)] [])) pre0 ?_
  show ∃ t o, Steps p.tables e below (s₁.setTop (mkF m 0 #[.val (.ref sb), .val (.ref so)] [])) t ∧ _
  refine own_go (fun _ => XS.aloadN X0.here hx rfl (hb hby d10_0) rfl rfl) ?_
  refine own_go (fun _ => XS.aloadN X0.here hx rfl (hb hby d10_1) rfl rfl) ?_
  show ∃ t o, Steps p.tables e below (s₁.setTop (mkF m 2 #[.val (.ref sb), .val (.ref so)] [(.ref so), (.ref sb)])) t ∧ _
  obtain ⟨_, _, ⟨T11, L11, k11, n11⟩, -, X11, ⟨Lc11, hQ11, l11, y11, z11⟩, st11⟩ := superBack X0 hx hZ (y := (⟨"java/lang/AbstractStringBuilder", "append", "(Ljava/lang/String;)Ljava/lang/AbstractStringBuilder;"⟩ : MethodName)) hown (hw _ (List.mem_of_getElem? (i := 72) rfl)) (own_same (y := (⟨"java/lang/AbstractStringBuilder", "append", "(Ljava/lang/String;)Ljava/lang/AbstractStringBuilder;"⟩ : MethodName)) (hw _ (List.mem_of_getElem? (i := 93) rfl)) rfl (hw _ (List.mem_of_getElem? (i := 73) rfl)) (by decide)) (hw _ (List.mem_of_getElem? (i := 73) rfl)) (hw _ (List.mem_of_getElem? (i := 74) rfl)) (by decide) (backOf (W := 0) (rmABa l Z a0 hw [] so tb kb nn vs sb vb kv us cn zc h0 n0 Z0 P1 P2 P3 P4 P5 P6 P7 P8 P9 OLD P10 hzc f1 f2 hbn gvb gsb hne) hZ (hw _ (List.mem_of_getElem? (i := 76) rfl)) (hw _ (List.mem_of_getElem? (i := 59) rfl)) (by decide) (by decide)) e0 (Ins.self P5) (g := (mkF m 2 #[.val (.ref sb), .val (.ref so)] [(.ref so), (.ref sb)])) rfl (by rw [hml]; rfl) (hw _ (List.mem_of_getElem? (i := 76) rfl)) (argsL := [(.ref so)]) (rest := []) (lenOf pd_h496c0e57 rfl) rfl (by show 2 * 0 + _ ≤ _; exact Nat.le_of_eq rfl) (hb hby d10_2) (fun _ _ => ⟨rfl, e0, (by decide : 0 + 0 ≤ _), (by decide : 0 + 0 ≤ _)⟩)
  dsimp only [Pt.U, Pt.locs, Pt.cells, Pt.slots] at X11 l11 y11 z11 st11 hQ11
  rw [l11, y11, z11] at X11
  obtain ⟨rfl, Nq11, Kp11, G11_0, G11_1, G11_2, G11_3, G11_4⟩ := hQ11
  have N11 := Fr.app N0 Nq11
  refine own_goT st11 ?_
  have le_11 : h0.size ≤ T11.heap.size := Kp11.1
  have K11 : Keep h0 T11.heap [sb, vb] := Keep.trans (Keep.refl h0 [sb, vb]) Kp11 (allS (Or.inl (List.mem_of_getElem? (i := 0) rfl)) (allS (Or.inl (List.mem_of_getElem? (i := 1) rfl)) all0))
  refine own_go (fun _ => XS.pop X11.here hx rfl (hb hby d10_5) rfl rfl) ?_
  refine own_go (fun _ => XS.aloadN X11.here hx rfl (hb hby d10_6) rfl rfl) ?_
  show ∃ t o, Steps p.tables e below (T11.setTop (mkF m 7 #[.val (.ref sb), .val (.ref so)] [(.ref sb)])) t ∧ _
  obtain ⟨fs, hr, hrun, hended, hW, hsame⟩ := X11.leave (v := some (.ref sb)) (fun h => by rw [Bd.returns] at h; cases h)
  refine ⟨_, _, ?_, hrun, hended, _, _, rfl, ?_, ⟨_, rfl⟩, hW, hsame.mono (by decide) (by decide)⟩
  · jvm_step X11.here [X11.here.top, hx, (hb hby d10_7), X11.method', Bd.returns, Value.isRef, FieldType.isReference]
    first | (intro acts; rw [hr _ acts rfl rfl rfl]) | rw [hr _ _ rfl rfl rfl]
    exact Steps.refl _
  · show Q_rmSBa Z _ _ _ _ _ _ _ _ _ _ _ h0 n0 _ T11.heap _
    exact ⟨rfl, N11, K11, G11_0, G11_1, G11_2, G11_3, G11_4⟩
theorem ef_rmCkl (m : MethodId) (x0 : Int32) (x1 : Int32) : entryFrame m #[(.int x0), (.int x1)] 2 = mkF m 0 #[.val (.int x0), .val (.int x1)] [] := by first | (simp [entryFrame, mkF, argsToLocals, Value.category]; done) | rfl
theorem d27_0 : decode jdk_65_method_131_code 0 = .ok (.iload_n 1, 1) := by decide +kernel
theorem d27_1 : decode jdk_65_method_131_code 1 = .ok (.iload_n 0, 1) := by decide +kernel
theorem d27_2 : decode jdk_65_method_131_code 2 = .ok (.if_icmp .ge 35, 3) := by decide +kernel
theorem d27_37 : decode jdk_65_method_131_code 37 = .ok (.return_, 1) := by decide +kernel
theorem pn_java_util_Arrays : plainName "java/util/Arrays" = true := by first | (simp [plainName, overriddenIn]; done) | decide +kernel
def Q_rmCkl (Z : State) (cn : Int32) (h0 : Heap) (n0 : Nat) (v : Option Value) (h : Heap) (L : List Loc) : Prop := v = none ∧ Fr n0 L ∧ h = h0
set_option maxRecDepth 65536 in
set_option maxHeartbeats 40000000 in
theorem rmCkl (l : Launch) (Z : State) (a0 : Array Value) (hw : ∀ d ∈ tables_1, d.before a0 Z = true) (ws : List Jvm.Cond) (cn : Int32) (h0 : Heap) (n0 : Nat) (Z0 : n0 ≤ h0.size) (OLD : Old Z n0 h0) (q0 : ¬ (cn < (0 : Int32))) :
    MetFree l (⟨"java/util/Arrays", "checkLength", "(II)V"⟩ : MethodName) (head1 (Jvm.Cond.code (⟨"java/util/Arrays", "checkLength", "(II)V"⟩ : MethodName) jdk_65_method_131_code 2 none :: ws) ({ frames := 0, cells := 0, slots := 0, locals := 0 } : Room)) (fun a U => a = #[(.int (0 : Int32)), (.int cn)] ∧ Z.Warmed39 U.vm ∧ U.heap = h0) (fun _ _ _ _ _ => True) (fun _ U o U' => ∃ v L, o = .returned v ∧ Q_rmCkl Z cn h0 n0 v U'.heap L ∧ FrameEnd U o U' L ({ frames := 0, cells := 0, slots := 0, locals := 0 } : Room).cells ({ frames := 0, cells := 0, slots := 0, locals := 0 } : Room).slots) := by
  refine MetFree.of_bodySF (plainFor_of_name pn_java_util_Arrays) hisR ?_
  intro p e s m args below meth c s₁ Bd hml0 hP hK
  obtain ⟨rfl, hZ, hh⟩ := hP
  have hx := Bd.exec
  have hby := Bd.bytes
  have hml : c.maxLocals = 2 := hml0
  have hown : s.vm.findClass "java/util/Arrays" = some m.cls := findClass_of_methodNamed Bd.named
  have hnm := (name_of_methodNamed Bd.named Bd.method).1
  have X0 : Stand p l e ({ frames := 0, cells := 0, slots := 0, locals := 0 } : Room) s m #[(.int (0 : Int32)), (.int cn)] below meth c s₁ [] 0 0 := Stand.of_body Bd
  have e0 : s₁.heap = h0 := by rw [← hh, Bd.state]; rfl
  have N0 := Fr.nil n0
  have pre0 : ∀ t, Steps p.tables e below (s₁.setTop (mkF m 0 #[.val (.int (0 : Int32)), .val (.int cn)] [])) t → Steps p.tables e below (s₁.setTop (entryFrame m #[(.int (0 : Int32)), (.int cn)] 2)) t := fun t k => castTop (ef_rmCkl m (0 : Int32) cn) k
  have oz := OLD.1
  refine own_go (B := s₁.setTop (mkF m 0 #[.val (.int (0 : Int32)), .val (.int cn)] [])) pre0 ?_
  show ∃ t o, Steps p.tables e below (s₁.setTop (mkF m 0 #[.val (.int (0 : Int32)), .val (.int cn)] [])) t ∧ _
  refine own_go (fun _ => XS.iloadN X0.here hx rfl (hb hby d27_0) rfl) ?_
  refine own_go (fun _ => XS.iloadN X0.here hx rfl (hb hby d27_1) rfl) ?_
  show ∃ t o, Steps p.tables e below (s₁.setTop (mkF m 2 #[.val (.int (0 : Int32)), .val (.int cn)] [(.int (0 : Int32)), (.int cn)])) t ∧ _
  refine own_go (fun _ => XS.icmpYes X0.here hx rfl (pc0 := 2) (pc' := 37) rfl (hb hby d27_2) rfl (flt q0).2.1 (by decide) (by decide)) ?_
  show ∃ t o, Steps p.tables e below (s₁.setTop (mkF m 37 #[.val (.int (0 : Int32)), .val (.int cn)] [])) t ∧ _
  obtain ⟨fs, hr, hrun, hended, hW, hsame⟩ := X0.leave (v := none) (fun _ => rfl)
  refine ⟨_, _, ?_, hrun, hended, _, _, rfl, ?_, ⟨_, rfl⟩, hW, hsame.mono (by decide) (by decide)⟩
  · exact X0.returnOut hx Bd.returns (hb hby d27_37) hr
  · show Q_rmCkl Z _ h0 n0 _ s₁.heap _
    rw [e0]
    exact ⟨rfl, N0, rfl⟩
theorem ef_rmMin (m : MethodId) (x0 : Int32) (x1 : Int32) : entryFrame m #[(.int x0), (.int x1)] 2 = mkF m 0 #[.val (.int x0), .val (.int x1)] [] := by first | (simp [entryFrame, mkF, argsToLocals, Value.category]; done) | rfl
theorem d28_0 : decode jdk_29_method_69_code 0 = .ok (.iload_n 0, 1) := by decide +kernel
theorem d28_1 : decode jdk_29_method_69_code 1 = .ok (.iload_n 1, 1) := by decide +kernel
theorem d28_2 : decode jdk_29_method_69_code 2 = .ok (.if_icmp .gt 7, 3) := by decide +kernel
theorem d28_9 : decode jdk_29_method_69_code 9 = .ok (.iload_n 1, 1) := by decide +kernel
theorem d28_10 : decode jdk_29_method_69_code 10 = .ok (.ireturn, 1) := by decide +kernel
def Q_rmMin (Z : State) (cn : Int32) (h0 : Heap) (n0 : Nat) (v : Option Value) (h : Heap) (L : List Loc) : Prop := v = some (.int cn) ∧ Fr n0 L ∧ h = h0
set_option maxRecDepth 65536 in
set_option maxHeartbeats 40000000 in
theorem rmMin (l : Launch) (Z : State) (a0 : Array Value) (hw : ∀ d ∈ tables_1, d.before a0 Z = true) (ws : List Jvm.Cond) (cn : Int32) (h0 : Heap) (n0 : Nat) (Z0 : n0 ≤ h0.size) (OLD : Old Z n0 h0) (q1 : cn < (16 : Int32)) :
    MetFree l (⟨"java/lang/Math", "min", "(II)I"⟩ : MethodName) (head1 (Jvm.Cond.code (⟨"java/lang/Math", "min", "(II)I"⟩ : MethodName) jdk_29_method_69_code 2 (some .int) :: ws) ({ frames := 0, cells := 0, slots := 0, locals := 0 } : Room)) (fun a U => a = #[(.int (16 : Int32)), (.int cn)] ∧ Z.Warmed39 U.vm ∧ U.heap = h0) (fun _ _ _ _ _ => True) (fun _ U o U' => ∃ v L, o = .returned v ∧ Q_rmMin Z cn h0 n0 v U'.heap L ∧ FrameEnd U o U' L ({ frames := 0, cells := 0, slots := 0, locals := 0 } : Room).cells ({ frames := 0, cells := 0, slots := 0, locals := 0 } : Room).slots) := by
  refine MetFree.of_bodySF (Jvm.Free.JP.mathPlain rfl (by decide +kernel)) hisR ?_
  intro p e s m args below meth c s₁ Bd hml0 hP hK
  obtain ⟨rfl, hZ, hh⟩ := hP
  have hx := Bd.exec
  have hby := Bd.bytes
  have hml : c.maxLocals = 2 := hml0
  have hown : s.vm.findClass "java/lang/Math" = some m.cls := findClass_of_methodNamed Bd.named
  have hnm := (name_of_methodNamed Bd.named Bd.method).1
  have X0 : Stand p l e ({ frames := 0, cells := 0, slots := 0, locals := 0 } : Room) s m #[(.int (16 : Int32)), (.int cn)] below meth c s₁ [] 0 0 := Stand.of_body Bd
  have e0 : s₁.heap = h0 := by rw [← hh, Bd.state]; rfl
  have N0 := Fr.nil n0
  have pre0 : ∀ t, Steps p.tables e below (s₁.setTop (mkF m 0 #[.val (.int (16 : Int32)), .val (.int cn)] [])) t → Steps p.tables e below (s₁.setTop (entryFrame m #[(.int (16 : Int32)), (.int cn)] 2)) t := fun t k => castTop (ef_rmMin m (16 : Int32) cn) k
  have oz := OLD.1
  refine own_go (B := s₁.setTop (mkF m 0 #[.val (.int (16 : Int32)), .val (.int cn)] [])) pre0 ?_
  show ∃ t o, Steps p.tables e below (s₁.setTop (mkF m 0 #[.val (.int (16 : Int32)), .val (.int cn)] [])) t ∧ _
  refine own_go (fun _ => XS.iloadN X0.here hx rfl (hb hby d28_0) rfl) ?_
  refine own_go (fun _ => XS.iloadN X0.here hx rfl (hb hby d28_1) rfl) ?_
  show ∃ t o, Steps p.tables e below (s₁.setTop (mkF m 2 #[.val (.int (16 : Int32)), .val (.int cn)] [(.int cn), (.int (16 : Int32))])) t ∧ _
  refine own_go (fun _ => XS.icmpYes X0.here hx rfl (pc0 := 2) (pc' := 9) rfl (hb hby d28_2) rfl (tlt q1).2.2.1 (by decide) (by decide)) ?_
  refine own_go (fun _ => XS.iloadN X0.here hx rfl (hb hby d28_9) rfl) ?_
  show ∃ t o, Steps p.tables e below (s₁.setTop (mkF m 10 #[.val (.int (16 : Int32)), .val (.int cn)] [(.int cn)])) t ∧ _
  obtain ⟨fs, hr, hrun, hended, hW, hsame⟩ := X0.leave (v := some (.int cn)) (fun h => by rw [Bd.returns] at h; cases h)
  refine ⟨_, _, ?_, hrun, hended, _, _, rfl, ?_, ⟨_, rfl⟩, hW, hsame.mono (by decide) (by decide)⟩
  · exact retI X0 hx Bd.returns (hb hby d28_10) hr
  · show Q_rmMin Z _ h0 n0 _ s₁.heap _
    rw [e0]
    exact ⟨rfl, N0, rfl⟩
theorem ef_rmCrb (m : MethodId) (x0 : Nat) (x1 : Int32) (x2 : Int32) : entryFrame m #[(.ref x0), (.int x1), (.int x2)] 5 = mkF m 0 #[.val (.ref x0), .val (.int x1), .val (.int x2), .unset, .unset] [] := by first | (simp [entryFrame, mkF, argsToLocals, Value.category]; done) | rfl
theorem d26_0 : decode jdk_65_method_133_code 0 = .ok (.iload_n 1, 1) := by decide +kernel
theorem d26_1 : decode jdk_65_method_133_code 1 = .ok (.iload_n 2, 1) := by decide +kernel
theorem d26_2 : decode jdk_65_method_133_code 2 = .ok (.invokestatic 343, 3) := by decide +kernel
theorem pd__28II_29V : parseMethodDescriptor "(II)V" = some ⟨[.int, .int], none⟩ := by decide +kernel
theorem d26_5 : decode jdk_65_method_133_code 5 = .ok (.iload_n 2, 1) := by decide +kernel
theorem d26_6 : decode jdk_65_method_133_code 6 = .ok (.iload_n 1, 1) := by decide +kernel
theorem d26_7 : decode jdk_65_method_133_code 7 = .ok (.isub, 1) := by decide +kernel
theorem d26_8 : decode jdk_65_method_133_code 8 = .ok (.istore_n 3, 1) := by decide +kernel
theorem d26_9 : decode jdk_65_method_133_code 9 = .ok (.iload_n 3, 1) := by decide +kernel
theorem d26_10 : decode jdk_65_method_133_code 10 = .ok (.newarray .byte, 2) := by decide +kernel
theorem d26_12 : decode jdk_65_method_133_code 12 = .ok (.astore 4, 2) := by decide +kernel
theorem d26_14 : decode jdk_65_method_133_code 14 = .ok (.aload_n 0, 1) := by decide +kernel
theorem d26_15 : decode jdk_65_method_133_code 15 = .ok (.iload_n 1, 1) := by decide +kernel
theorem d26_16 : decode jdk_65_method_133_code 16 = .ok (.aload 4, 2) := by decide +kernel
theorem d26_18 : decode jdk_65_method_133_code 18 = .ok (.iconst 0, 1) := by decide +kernel
theorem d26_19 : decode jdk_65_method_133_code 19 = .ok (.aload_n 0, 1) := by decide +kernel
theorem d26_20 : decode jdk_65_method_133_code 20 = .ok (.arraylength, 1) := by decide +kernel
theorem d26_21 : decode jdk_65_method_133_code 21 = .ok (.iload_n 1, 1) := by decide +kernel
theorem d26_22 : decode jdk_65_method_133_code 22 = .ok (.isub, 1) := by decide +kernel
theorem d26_23 : decode jdk_65_method_133_code 23 = .ok (.iload_n 3, 1) := by decide +kernel
theorem d26_24 : decode jdk_65_method_133_code 24 = .ok (.invokestatic 304, 3) := by decide +kernel
theorem pd__28II_29I : parseMethodDescriptor "(II)I" = some ⟨[.int, .int], some .int⟩ := by decide +kernel
theorem d26_27 : decode jdk_65_method_133_code 27 = .ok (.invokestatic 150, 3) := by decide +kernel
theorem d26_30 : decode jdk_65_method_133_code 30 = .ok (.aload 4, 2) := by decide +kernel
theorem d26_32 : decode jdk_65_method_133_code 32 = .ok (.areturn, 1) := by decide +kernel
def Q_rmCrb (Z : State) (vb : Nat) (kv : ClassId) (us : List Value) (cn : Int32) (h0 : Heap) (n0 : Nat) (v : Option Value) (h : Heap) (L : List Loc) : Prop := ∃ (nb : Nat), ∃ (kn : ClassId), v = some (.ref nb) ∧ Fr n0 L ∧ Keep h0 h [] ∧ Arv Z h nb kn .byte cn us (.int (0 : Int32)) ∧ (h0.size ≤ nb)
set_option maxRecDepth 65536 in
set_option maxHeartbeats 40000000 in
theorem rmCrb (l : Launch) (Z : State) (a0 : Array Value) (hw : ∀ d ∈ tables_1, d.before a0 Z = true) (ws : List Jvm.Cond) (vb : Nat) (kv : ClassId) (us : List Value) (cn : Int32) (h0 : Heap) (n0 : Nat) (Z0 : n0 ≤ h0.size) (P1 : Arv Z h0 vb kv .byte (16 : Int32) us (.int (0 : Int32))) (OLD : Old Z n0 h0) (f2 : own_fit us cn) (hbn : us.length ≤ 15) :
    MetFree l (⟨"java/util/Arrays", "copyOfRangeByte", "([BII)[B"⟩ : MethodName) (head1 (Jvm.Cond.code (⟨"java/util/Arrays", "copyOfRangeByte", "([BII)[B"⟩ : MethodName) jdk_65_method_133_code 5 (some (.array .byte)) :: ws) ({ frames := 1, cells := 1, slots := 15, locals := 18 } : Room)) (fun a U => a = #[(.ref vb), (.int (0 : Int32)), (.int cn)] ∧ Z.Warmed39 U.vm ∧ U.heap = h0) (fun _ _ _ _ _ => True) (fun _ U o U' => ∃ v L, o = .returned v ∧ Q_rmCrb Z vb kv us cn h0 n0 v U'.heap L ∧ FrameEnd U o U' L ({ frames := 1, cells := 1, slots := 15, locals := 18 } : Room).cells ({ frames := 1, cells := 1, slots := 15, locals := 18 } : Room).slots) := by
  refine MetFree.of_bodySF (plainFor_of_name pn_java_util_Arrays) hisR ?_
  intro p e s m args below meth c s₁ Bd hml0 hP hK
  obtain ⟨rfl, hZ, hh⟩ := hP
  have hx := Bd.exec
  have hby := Bd.bytes
  have hml : c.maxLocals = 5 := hml0
  have hown : s.vm.findClass "java/util/Arrays" = some m.cls := findClass_of_methodNamed Bd.named
  have hnm := (name_of_methodNamed Bd.named Bd.method).1
  have X0 : Stand p l e ({ frames := 1, cells := 1, slots := 15, locals := 18 } : Room) s m #[(.ref vb), (.int (0 : Int32)), (.int cn)] below meth c s₁ [] 0 0 := Stand.of_body Bd
  have e0 : s₁.heap = h0 := by rw [← hh, Bd.state]; rfl
  have N0 := Fr.nil n0
  have pre0 : ∀ t, Steps p.tables e below (s₁.setTop (mkF m 0 #[.val (.ref vb), .val (.int (0 : Int32)), .val (.int cn), .unset, .unset] [])) t → Steps p.tables e below (s₁.setTop (entryFrame m #[(.ref vb), (.int (0 : Int32)), (.int cn)] 5)) t := fun t k => castTop (ef_rmCrb m vb (0 : Int32) cn) k
  have oz := OLD.1
  have lt_vb : vb < h0.size := P1.lt
  refine own_go (B := s₁.setTop (mkF m 0 #[.val (.ref vb), .val (.int (0 : Int32)), .val (.int cn), .unset, .unset] [])) pre0 ?_
  show ∃ t o, Steps p.tables e below (s₁.setTop (mkF m 0 #[.val (.ref vb), .val (.int (0 : Int32)), .val (.int cn), .unset, .unset] [])) t ∧ _
  refine own_go (fun _ => XS.iloadN X0.here hx rfl (hb hby d26_0) rfl) ?_
  refine own_go (fun _ => XS.iloadN X0.here hx rfl (hb hby d26_1) rfl) ?_
  show ∃ t o, Steps p.tables e below (s₁.setTop (mkF m 2 #[.val (.ref vb), .val (.int (0 : Int32)), .val (.int cn), .unset, .unset] [(.int cn), (.int (0 : Int32))])) t ∧ _
  obtain ⟨_, _, ⟨T2, L2, k2, n2⟩, -, X2, ⟨Lc2, hQ2, l2, y2, z2⟩, st2⟩ := Jvm.LawKit.callS X0 hx (y := (⟨"java/util/Arrays", "checkLength", "(II)V"⟩ : MethodName)) hown (mvT hZ (hw _ (List.mem_of_getElem? (i := 153) rfl))) (mvT hZ (hw _ (List.mem_of_getElem? (i := 154) rfl))) (mvT hZ (hw _ (List.mem_of_getElem? (i := 148) rfl))) (mvT hZ (hw _ (List.mem_of_getElem? (i := 155) rfl))) (by decide) (backOf (W := 0) (rmCkl l Z a0 hw [] cn h0 n0 Z0 OLD (own_fit.nn f2 : ¬ (cn < (0 : Int32)))) hZ (hw _ (List.mem_of_getElem? (i := 155) rfl)) (hw _ (List.mem_of_getElem? (i := 148) rfl)) (by decide) (by decide)) (g := (mkF m 2 #[.val (.ref vb), .val (.int (0 : Int32)), .val (.int cn), .unset, .unset] [(.int cn), (.int (0 : Int32))])) rfl (by rw [hml]; rfl) (argsL := [(.int (0 : Int32)), (.int cn)]) (rest := []) (lenOf pd__28II_29V rfl) rfl (by show 2 * 0 + _ ≤ _; exact Nat.le_of_eq rfl) (hb hby d26_2) (fun _ _ => ⟨rfl, e0, (by decide : 0 + 0 ≤ _), (by decide : 0 + 0 ≤ _)⟩)
  dsimp only [Pt.U, Pt.locs, Pt.cells, Pt.slots] at X2 l2 y2 z2 st2 hQ2
  rw [l2, y2, z2] at X2
  obtain ⟨rfl, Nq2, e2⟩ := hQ2
  have N2 := Fr.app N0 Nq2
  refine own_go st2 ?_
  refine own_go (fun _ => XS.iloadN X2.here hx rfl (hb hby d26_5) rfl) ?_
  refine own_go (fun _ => XS.iloadN X2.here hx rfl (hb hby d26_6) rfl) ?_
  show ∃ t o, Steps p.tables e below (T2.setTop (mkF m 7 #[.val (.ref vb), .val (.int (0 : Int32)), .val (.int cn), .unset, .unset] [(.int (0 : Int32)), (.int cn)])) t ∧ _
  refine own_go (fun _ => XS.isub X2.here hx rfl (hb hby d26_7) rfl) ?_
  show ∃ t o, Steps p.tables e below (T2.setTop (mkF m 8 #[.val (.ref vb), .val (.int (0 : Int32)), .val (.int cn), .unset, .unset] [(.int (cn - (0 : Int32)))])) t ∧ _
  rw [own_sub0]
  show ∃ t o, Steps p.tables e below (T2.setTop (mkF m 8 #[.val (.ref vb), .val (.int (0 : Int32)), .val (.int cn), .unset, .unset] [(.int cn)])) t ∧ _
  refine own_go (fun _ => XS.istoreN X2.here hx rfl (hb hby d26_8) rfl (l' := #[.val (.ref vb), .val (.int (0 : Int32)), .val (.int cn), .val (.int cn), .unset]) rfl) ?_
  refine own_go (fun _ => XS.iloadN X2.here hx rfl (hb hby d26_9) rfl) ?_
  show ∃ t o, Steps p.tables e below (T2.setTop (mkF m 10 #[.val (.ref vb), .val (.int (0 : Int32)), .val (.int cn), .val (.int cn), .unset] [(.int cn)])) t ∧ _
  obtain ⟨T3, h3, k3, X3, e3, E3, A3, st3⟩ := newP X2 hx hZ (hw _ (List.mem_of_getElem? (i := 19) rfl)) e2 (g := (mkF m 10 #[.val (.ref vb), .val (.int (0 : Int32)), .val (.int cn), .val (.int cn), .unset] [(.int cn)])) rfl (hb hby d26_10) rfl (own_fit.nn f2) (cap := 15) (by rw [own_fit.cl f2]; exact hbn) (by decide) (by decide) (by decide)
  obtain ⟨b3, g3⟩ : ∃ z, z = h0.size := ⟨_, rfl⟩
  rw [← g3] at A3 st3
  refine own_go st3 ?_
  have le_3 : h0.size ≤ h3.size := E3.1
  have lt_b3 : b3 < h3.size := A3.lt
  have V_b3 : Arv Z h3 b3 k3 .byte cn [] (.int (0 : Int32)) := Arv.new A3 (own_fit.nn f2)
  have K3 : Keep h0 h3 [] := Keep.ext (Keep.refl h0 []) E3
  refine own_go (fun _ => XS.astore X3.here hx rfl (hb hby d26_12) rfl rfl (l' := #[.val (.ref vb), .val (.int (0 : Int32)), .val (.int cn), .val (.int cn), .val (.ref b3)]) rfl) ?_
  refine own_go (fun _ => XS.aloadN X3.here hx rfl (hb hby d26_14) rfl rfl) ?_
  show ∃ t o, Steps p.tables e below (T3.setTop (mkF m 15 #[.val (.ref vb), .val (.int (0 : Int32)), .val (.int cn), .val (.int cn), .val (.ref b3)] [(.ref vb)])) t ∧ _
  refine own_go (fun _ => XS.iloadN X3.here hx rfl (hb hby d26_15) rfl) ?_
  refine own_go (fun _ => XS.aload X3.here hx rfl (hb hby d26_16) rfl rfl) ?_
  refine own_go (fun _ => XS.iconst X3.here hx rfl (hb hby d26_18)) ?_
  show ∃ t o, Steps p.tables e below (T3.setTop (mkF m 19 #[.val (.ref vb), .val (.int (0 : Int32)), .val (.int cn), .val (.int cn), .val (.ref b3)] [(.int (0 : Int32)), (.ref b3), (.int (0 : Int32)), (.ref vb)])) t ∧ _
  refine own_go (fun _ => XS.aloadN X3.here hx rfl (hb hby d26_19) rfl rfl) ?_
  have F4 : Arv Z h3 vb kv .byte (16 : Int32) us (.int (0 : Int32)) := (P1.ext E3)
  obtain ⟨cl5, Ar5, q5, S5, N5, H5, G5⟩ := id F4
  have ln5 : cl5.slots.size.toInt32 = (16 : Int32) := len_of S5 N5
  have al5 := X3.arraylength hx (by rw [e3]; exact Ar5.1) (State.isArrayOf_alike hZ.alike Ar5.2.1) (g := (mkF m 20 #[.val (.ref vb), .val (.int (0 : Int32)), .val (.int cn), .val (.int cn), .val (.ref b3)] [(.ref vb), (.int (0 : Int32)), (.ref b3), (.int (0 : Int32)), (.ref vb)])) rfl rfl (hb hby d26_20)
  rw [ln5] at al5
  refine own_go al5 ?_
  refine own_go (fun _ => XS.iloadN X3.here hx rfl (hb hby d26_21) rfl) ?_
  show ∃ t o, Steps p.tables e below (T3.setTop (mkF m 22 #[.val (.ref vb), .val (.int (0 : Int32)), .val (.int cn), .val (.int cn), .val (.ref b3)] [(.int (0 : Int32)), (.int (16 : Int32)), (.int (0 : Int32)), (.ref b3), (.int (0 : Int32)), (.ref vb)])) t ∧ _
  refine own_go (fun _ => XS.isub X3.here hx rfl (hb hby d26_22) rfl) ?_
  refine own_go (fun _ => XS.iloadN X3.here hx rfl (hb hby d26_23) rfl) ?_
  show ∃ t o, Steps p.tables e below (T3.setTop (mkF m 24 #[.val (.ref vb), .val (.int (0 : Int32)), .val (.int cn), .val (.int cn), .val (.ref b3)] [(.int cn), (.int (16 : Int32)), (.int (0 : Int32)), (.ref b3), (.int (0 : Int32)), (.ref vb)])) t ∧ _
  have F6 : Old Z n0 h3 := (OLD.ext E3)
  have zl7 : n0 ≤ h3.size := by omega
  obtain ⟨_, _, ⟨T8, L8, k8, n8⟩, -, X8, ⟨Lc8, hQ8, l8, y8, z8⟩, st8⟩ := Jvm.LawKit.callS X3 hx (y := (⟨"java/lang/Math", "min", "(II)I"⟩ : MethodName)) hown (mvT hZ (hw _ (List.mem_of_getElem? (i := 156) rfl))) (mvT hZ (hw _ (List.mem_of_getElem? (i := 157) rfl))) (mvT hZ (hw _ (List.mem_of_getElem? (i := 158) rfl))) (mvT hZ (hw _ (List.mem_of_getElem? (i := 159) rfl))) (by decide) (backOf (W := 4) (rmMin l Z a0 hw [] cn h3 n0 zl7 F6 (own_fit.lt f2 hbn : cn < (16 : Int32))) hZ (hw _ (List.mem_of_getElem? (i := 159) rfl)) (hw _ (List.mem_of_getElem? (i := 158) rfl)) (by decide) (by decide)) (g := (mkF m 24 #[.val (.ref vb), .val (.int (0 : Int32)), .val (.int cn), .val (.int cn), .val (.ref b3)] [(.int cn), (.int (16 : Int32)), (.int (0 : Int32)), (.ref b3), (.int (0 : Int32)), (.ref vb)])) rfl (by rw [hml]; rfl) (argsL := [(.int (16 : Int32)), (.int cn)]) (rest := [(.int (0 : Int32)), (.ref b3), (.int (0 : Int32)), (.ref vb)]) (lenOf pd__28II_29I rfl) rfl (by show 2 * 0 + _ ≤ _; exact Nat.le_of_eq rfl) (hb hby d26_24) (fun _ _ => ⟨rfl, e3, (by decide : 1 + 0 ≤ _), (by decide : 15 + 0 ≤ _)⟩)
  dsimp only [Pt.U, Pt.locs, Pt.cells, Pt.slots] at X8 l8 y8 z8 st8 hQ8
  rw [l8, y8, z8] at X8
  obtain ⟨rfl, Nq8, e8⟩ := hQ8
  have N8 := Fr.app N2 Nq8
  refine own_go st8 ?_
  show ∃ t o, Steps p.tables e below (T8.setTop (mkF m 27 #[.val (.ref vb), .val (.int (0 : Int32)), .val (.int cn), .val (.int cn), .val (.ref b3)] [(.int cn), (.int (0 : Int32)), (.ref b3), (.int (0 : Int32)), (.ref vb)])) t ∧ _
  have ge9 : n0 ≤ b3 := by omega
  obtain ⟨T10, h10, L10, X10, e10, N10, Kp10, V10, st10⟩ := own_cp X8 hx hZ hown (hw _ (List.mem_of_getElem? (i := 160) rfl)) (hw _ (List.mem_of_getElem? (i := 114) rfl)) (hw _ (List.mem_of_getElem? (i := 112) rfl)) (hw _ (List.mem_of_getElem? (i := 113) rfl)) e8 F4 V_b3 f2 (rfl : own_fit [] (0 : Int32)) (Nat.le_trans hbn (by decide)) (by rw [own_fit.cl f2]; exact Nat.le_of_eq (Nat.zero_add _)) N8 ge9 (g := (mkF m 27 #[.val (.ref vb), .val (.int (0 : Int32)), .val (.int cn), .val (.int cn), .val (.ref b3)] [(.int cn), (.int (0 : Int32)), (.ref b3), (.int (0 : Int32)), (.ref vb)])) rfl (by rw [hml]; rfl) rfl (hb hby d26_27) (by decide) (W := 0) (by show 2 * 0 + _ ≤ _; exact Nat.le_of_eq rfl) (by decide +kernel)
  refine own_go st10 ?_
  have le_10 : h3.size ≤ h10.size := Kp10.1
  have sz11 : h0.size ≤ b3 := by omega
  have K10 : Keep h0 h10 [] := Keep.trans K3 Kp10 (allS (Or.inr sz11) all0)
  refine own_go (fun _ => XS.aload X10.here hx rfl (hb hby d26_30) rfl rfl) ?_
  show ∃ t o, Steps p.tables e below (T10.setTop (mkF m 32 #[.val (.ref vb), .val (.int (0 : Int32)), .val (.int cn), .val (.int cn), .val (.ref b3)] [(.ref b3)])) t ∧ _
  obtain ⟨fs, hr, hrun, hended, hW, hsame⟩ := X10.leave (v := some (.ref b3)) (fun h => by rw [Bd.returns] at h; cases h)
  refine ⟨_, _, ?_, hrun, hended, _, _, rfl, ?_, ⟨_, rfl⟩, hW, hsame.mono (by decide) (by decide)⟩
  · jvm_step X10.here [X10.here.top, hx, (hb hby d26_32), X10.method', Bd.returns, Value.isRef, FieldType.isReference]
    first | (intro acts; rw [hr _ acts rfl rfl rfl]) | rw [hr _ _ rfl rfl rfl]
    exact Steps.refl _
  · show Q_rmCrb Z _ _ _ _ h0 n0 _ T10.heap _
    rw [e10]
    exact ⟨b3, k3, rfl, N10, K10, V10, (by omega)⟩
theorem ef_rmCr (m : MethodId) (x0 : Nat) (x1 : Int32) (x2 : Int32) : entryFrame m #[(.ref x0), (.int x1), (.int x2)] 3 = mkF m 0 #[.val (.ref x0), .val (.int x1), .val (.int x2)] [] := by first | (simp [entryFrame, mkF, argsToLocals, Value.category]; done) | rfl
theorem d25_0 : decode jdk_65_method_132_code 0 = .ok (.iload_n 1, 1) := by decide +kernel
theorem d25_1 : decode jdk_65_method_132_code 1 = .ok (.ifCond .ne 9, 3) := by decide +kernel
theorem d25_4 : decode jdk_65_method_132_code 4 = .ok (.iload_n 2, 1) := by decide +kernel
theorem d25_5 : decode jdk_65_method_132_code 5 = .ok (.aload_n 0, 1) := by decide +kernel
theorem d25_6 : decode jdk_65_method_132_code 6 = .ok (.arraylength, 1) := by decide +kernel
theorem d25_7 : decode jdk_65_method_132_code 7 = .ok (.if_icmp .eq 10, 3) := by decide +kernel
theorem d25_10 : decode jdk_65_method_132_code 10 = .ok (.aload_n 0, 1) := by decide +kernel
theorem d25_11 : decode jdk_65_method_132_code 11 = .ok (.iload_n 1, 1) := by decide +kernel
theorem d25_12 : decode jdk_65_method_132_code 12 = .ok (.iload_n 2, 1) := by decide +kernel
theorem d25_13 : decode jdk_65_method_132_code 13 = .ok (.invokestatic 339, 3) := by decide +kernel
theorem pd__28_5bBII_29_5bB : parseMethodDescriptor "([BII)[B" = some ⟨[(.array .byte), .int, .int], some (.array .byte)⟩ := by decide +kernel
theorem d25_16 : decode jdk_65_method_132_code 16 = .ok (.areturn, 1) := by decide +kernel
def Q_rmCr (Z : State) (vb : Nat) (kv : ClassId) (us : List Value) (cn : Int32) (h0 : Heap) (n0 : Nat) (v : Option Value) (h : Heap) (L : List Loc) : Prop := ∃ (nb : Nat), ∃ (kn : ClassId), v = some (.ref nb) ∧ Fr n0 L ∧ Keep h0 h [] ∧ Arv Z h nb kn .byte cn us (.int (0 : Int32)) ∧ (h0.size ≤ nb)
set_option maxRecDepth 65536 in
set_option maxHeartbeats 40000000 in
theorem rmCr (l : Launch) (Z : State) (a0 : Array Value) (hw : ∀ d ∈ tables_1, d.before a0 Z = true) (ws : List Jvm.Cond) (vb : Nat) (kv : ClassId) (us : List Value) (cn : Int32) (h0 : Heap) (n0 : Nat) (Z0 : n0 ≤ h0.size) (P1 : Arv Z h0 vb kv .byte (16 : Int32) us (.int (0 : Int32))) (OLD : Old Z n0 h0) (f2 : own_fit us cn) (hbn : us.length ≤ 15) :
    MetFree l (⟨"java/util/Arrays", "copyOfRange", "([BII)[B"⟩ : MethodName) (head1 (Jvm.Cond.code (⟨"java/util/Arrays", "copyOfRange", "([BII)[B"⟩ : MethodName) jdk_65_method_132_code 3 (some (.array .byte)) :: ws) ({ frames := 2, cells := 1, slots := 15, locals := 34 } : Room)) (fun a U => a = #[(.ref vb), (.int (0 : Int32)), (.int cn)] ∧ Z.Warmed39 U.vm ∧ U.heap = h0) (fun _ _ _ _ _ => True) (fun _ U o U' => ∃ v L, o = .returned v ∧ Q_rmCr Z vb kv us cn h0 n0 v U'.heap L ∧ FrameEnd U o U' L ({ frames := 2, cells := 1, slots := 15, locals := 34 } : Room).cells ({ frames := 2, cells := 1, slots := 15, locals := 34 } : Room).slots) := by
  refine MetFree.of_bodySF (plainFor_of_name pn_java_util_Arrays) hisR ?_
  intro p e s m args below meth c s₁ Bd hml0 hP hK
  obtain ⟨rfl, hZ, hh⟩ := hP
  have hx := Bd.exec
  have hby := Bd.bytes
  have hml : c.maxLocals = 3 := hml0
  have hown : s.vm.findClass "java/util/Arrays" = some m.cls := findClass_of_methodNamed Bd.named
  have hnm := (name_of_methodNamed Bd.named Bd.method).1
  have X0 : Stand p l e ({ frames := 2, cells := 1, slots := 15, locals := 34 } : Room) s m #[(.ref vb), (.int (0 : Int32)), (.int cn)] below meth c s₁ [] 0 0 := Stand.of_body Bd
  have e0 : s₁.heap = h0 := by rw [← hh, Bd.state]; rfl
  have N0 := Fr.nil n0
  have pre0 : ∀ t, Steps p.tables e below (s₁.setTop (mkF m 0 #[.val (.ref vb), .val (.int (0 : Int32)), .val (.int cn)] [])) t → Steps p.tables e below (s₁.setTop (entryFrame m #[(.ref vb), (.int (0 : Int32)), (.int cn)] 3)) t := fun t k => castTop (ef_rmCr m vb (0 : Int32) cn) k
  have oz := OLD.1
  have lt_vb : vb < h0.size := P1.lt
  refine own_go (B := s₁.setTop (mkF m 0 #[.val (.ref vb), .val (.int (0 : Int32)), .val (.int cn)] [])) pre0 ?_
  show ∃ t o, Steps p.tables e below (s₁.setTop (mkF m 0 #[.val (.ref vb), .val (.int (0 : Int32)), .val (.int cn)] [])) t ∧ _
  refine own_go (fun _ => XS.iloadN X0.here hx rfl (hb hby d25_0) rfl) ?_
  show ∃ t o, Steps p.tables e below (s₁.setTop (mkF m 1 #[.val (.ref vb), .val (.int (0 : Int32)), .val (.int cn)] [(.int (0 : Int32))])) t ∧ _
  refine own_go (fun _ => XS.ifNo X0.here hx rfl (hb hby d25_1) rfl ((if0 _ _).trans (teq (by decide : (0 : Int32) = (0 : Int32))).2)) ?_
  refine own_go (fun _ => XS.iloadN X0.here hx rfl (hb hby d25_4) rfl) ?_
  refine own_go (fun _ => XS.aloadN X0.here hx rfl (hb hby d25_5) rfl rfl) ?_
  show ∃ t o, Steps p.tables e below (s₁.setTop (mkF m 6 #[.val (.ref vb), .val (.int (0 : Int32)), .val (.int cn)] [(.ref vb), (.int cn)])) t ∧ _
  obtain ⟨cl2, Ar2, q2, S2, N2, H2, G2⟩ := id P1
  have ln2 : cl2.slots.size.toInt32 = (16 : Int32) := len_of S2 N2
  have al2 := X0.arraylength hx (by rw [e0]; exact Ar2.1) (State.isArrayOf_alike hZ.alike Ar2.2.1) (g := (mkF m 6 #[.val (.ref vb), .val (.int (0 : Int32)), .val (.int cn)] [(.ref vb), (.int cn)])) rfl rfl (hb hby d25_6)
  rw [ln2] at al2
  refine own_go al2 ?_
  show ∃ t o, Steps p.tables e below (s₁.setTop (mkF m 7 #[.val (.ref vb), .val (.int (0 : Int32)), .val (.int cn)] [(.int (16 : Int32)), (.int cn)])) t ∧ _
  have hd3 : ¬ (cn = (16 : Int32)) := own_fit.ne f2 hbn
  refine own_go (fun _ => XS.icmpNo X0.here hx rfl (hb hby d25_7) rfl (feq hd3).1) ?_
  refine own_go (fun _ => XS.aloadN X0.here hx rfl (hb hby d25_10) rfl rfl) ?_
  refine own_go (fun _ => XS.iloadN X0.here hx rfl (hb hby d25_11) rfl) ?_
  show ∃ t o, Steps p.tables e below (s₁.setTop (mkF m 12 #[.val (.ref vb), .val (.int (0 : Int32)), .val (.int cn)] [(.int (0 : Int32)), (.ref vb)])) t ∧ _
  refine own_go (fun _ => XS.iloadN X0.here hx rfl (hb hby d25_12) rfl) ?_
  show ∃ t o, Steps p.tables e below (s₁.setTop (mkF m 13 #[.val (.ref vb), .val (.int (0 : Int32)), .val (.int cn)] [(.int cn), (.int (0 : Int32)), (.ref vb)])) t ∧ _
  obtain ⟨_, _, ⟨T4, L4, k4, n4⟩, -, X4, ⟨Lc4, hQ4, l4, y4, z4⟩, st4⟩ := Jvm.LawKit.callS X0 hx (y := (⟨"java/util/Arrays", "copyOfRangeByte", "([BII)[B"⟩ : MethodName)) hown (mvT hZ (hw _ (List.mem_of_getElem? (i := 150) rfl))) (mvT hZ (hw _ (List.mem_of_getElem? (i := 151) rfl))) (mvT hZ (hw _ (List.mem_of_getElem? (i := 148) rfl))) (mvT hZ (hw _ (List.mem_of_getElem? (i := 152) rfl))) (by decide) (backOf (W := 0) (rmCrb l Z a0 hw [] vb kv us cn h0 n0 Z0 P1 OLD f2 hbn) hZ (hw _ (List.mem_of_getElem? (i := 152) rfl)) (hw _ (List.mem_of_getElem? (i := 148) rfl)) (by decide) (by decide)) (g := (mkF m 13 #[.val (.ref vb), .val (.int (0 : Int32)), .val (.int cn)] [(.int cn), (.int (0 : Int32)), (.ref vb)])) rfl (by rw [hml]; rfl) (argsL := [(.ref vb), (.int (0 : Int32)), (.int cn)]) (rest := []) (lenOf pd__28_5bBII_29_5bB rfl) rfl (by show 2 * 0 + _ ≤ _; exact Nat.le_of_eq rfl) (hb hby d25_13) (fun _ _ => ⟨rfl, e0, (by decide : 0 + 1 ≤ _), (by decide : 0 + 15 ≤ _)⟩)
  dsimp only [Pt.U, Pt.locs, Pt.cells, Pt.slots] at X4 l4 y4 z4 st4 hQ4
  rw [l4, y4, z4] at X4
  obtain ⟨nb_4, kn_4, rfl, Nq4, Kp4, G4_0, H4_0⟩ := hQ4
  have N4 := Fr.app N0 Nq4
  refine own_go st4 ?_
  have le_4 : h0.size ≤ T4.heap.size := Kp4.1
  have K4 : Keep h0 T4.heap [] := Keep.trans (Keep.refl h0 []) Kp4 all0
  have lt_nb_4 : nb_4 < T4.heap.size := (G4_0).lt
  show ∃ t o, Steps p.tables e below (T4.setTop (mkF m 16 #[.val (.ref vb), .val (.int (0 : Int32)), .val (.int cn)] [(.ref nb_4)])) t ∧ _
  obtain ⟨fs, hr, hrun, hended, hW, hsame⟩ := X4.leave (v := some (.ref nb_4)) (fun h => by rw [Bd.returns] at h; cases h)
  refine ⟨_, _, ?_, hrun, hended, _, _, rfl, ?_, ⟨_, rfl⟩, hW, hsame.mono (by decide) (by decide)⟩
  · jvm_step X4.here [X4.here.top, hx, (hb hby d25_16), X4.method', Bd.returns, Value.isRef, FieldType.isReference]
    first | (intro acts; rw [hr _ acts rfl rfl rfl]) | rw [hr _ _ rfl rfl rfl]
    exact Steps.refl _
  · show Q_rmCr Z _ _ _ _ h0 n0 _ T4.heap _
    exact ⟨nb_4, kn_4, rfl, N4, K4, G4_0, H4_0⟩
theorem ef_rmGv (m : MethodId) (x0 : Nat) : entryFrame m #[(.ref x0)] 1 = mkF m 0 #[.val (.ref x0)] [] := by first | (simp [entryFrame, mkF, argsToLocals, Value.category]; done) | rfl
theorem d21_0 : decode jdk_68_method_64_code 0 = .ok (.aload_n 0, 1) := by decide +kernel
theorem d21_1 : decode jdk_68_method_64_code 1 = .ok (.getfield 15, 3) := by decide +kernel
theorem d21_4 : decode jdk_68_method_64_code 4 = .ok (.areturn, 1) := by decide +kernel
def Q_rmGv (Z : State) (sb : Nat) (vb : Nat) (h0 : Heap) (n0 : Nat) (v : Option Value) (h : Heap) (L : List Loc) : Prop := v = some (.ref vb) ∧ Fr n0 L ∧ h = h0
set_option maxRecDepth 65536 in
set_option maxHeartbeats 40000000 in
theorem rmGv (l : Launch) (Z : State) (a0 : Array Value) (hw : ∀ d ∈ tables_1, d.before a0 Z = true) (ws : List Jvm.Cond) (sb : Nat) (vb : Nat) (h0 : Heap) (n0 : Nat) (Z0 : n0 ≤ h0.size) (P1 : Fld Z h0 sb "java/lang/AbstractStringBuilder" "value" "[B" (.ref vb)) (OLD : Old Z n0 h0) :
    MetFree l (⟨"java/lang/AbstractStringBuilder", "getValue", "()[B"⟩ : MethodName) (head1 (Jvm.Cond.code (⟨"java/lang/AbstractStringBuilder", "getValue", "()[B"⟩ : MethodName) jdk_68_method_64_code 1 (some (.array .byte)) :: ws) ({ frames := 0, cells := 0, slots := 0, locals := 0 } : Room)) (fun a U => a = #[(.ref sb)] ∧ Z.Warmed39 U.vm ∧ U.heap = h0) (fun _ _ _ _ _ => True) (fun _ U o U' => ∃ v L, o = .returned v ∧ Q_rmGv Z sb vb h0 n0 v U'.heap L ∧ FrameEnd U o U' L ({ frames := 0, cells := 0, slots := 0, locals := 0 } : Room).cells ({ frames := 0, cells := 0, slots := 0, locals := 0 } : Room).slots) := by
  refine MetFree.of_bodySF (plainFor_of_name pn_java_lang_AbstractStringBuilder) hisR ?_
  intro p e s m args below meth c s₁ Bd hml0 hP hK
  obtain ⟨rfl, hZ, hh⟩ := hP
  have hx := Bd.exec
  have hby := Bd.bytes
  have hml : c.maxLocals = 1 := hml0
  have hown : s.vm.findClass "java/lang/AbstractStringBuilder" = some m.cls := findClass_of_methodNamed Bd.named
  have hnm := (name_of_methodNamed Bd.named Bd.method).1
  have X0 : Stand p l e ({ frames := 0, cells := 0, slots := 0, locals := 0 } : Room) s m #[(.ref sb)] below meth c s₁ [] 0 0 := Stand.of_body Bd
  have e0 : s₁.heap = h0 := by rw [← hh, Bd.state]; rfl
  have N0 := Fr.nil n0
  have pre0 : ∀ t, Steps p.tables e below (s₁.setTop (mkF m 0 #[.val (.ref sb)] [])) t → Steps p.tables e below (s₁.setTop (entryFrame m #[(.ref sb)] 1)) t := fun t k => castTop (ef_rmGv m sb) k
  have oz := OLD.1
  have lt_sb : sb < h0.size := P1.lt
  refine own_go (B := s₁.setTop (mkF m 0 #[.val (.ref sb)] [])) pre0 ?_
  show ∃ t o, Steps p.tables e below (s₁.setTop (mkF m 0 #[.val (.ref sb)] [])) t ∧ _
  refine own_go (fun _ => XS.aloadN X0.here hx rfl (hb hby d21_0) rfl rfl) ?_
  obtain ⟨T2, X2, e2, st2⟩ := getF X0 hx hZ hown (host := "") (Or.inl (hw _ (List.mem_of_getElem? (i := 63) rfl))) Via.refl e0 P1 (g := (mkF m 1 #[.val (.ref sb)] [(.ref sb)])) rfl rfl (hb hby d21_1)
  refine own_go st2 ?_
  show ∃ t o, Steps p.tables e below (T2.setTop (mkF m 4 #[.val (.ref sb)] [(.ref vb)])) t ∧ _
  obtain ⟨fs, hr, hrun, hended, hW, hsame⟩ := X2.leave (v := some (.ref vb)) (fun h => by rw [Bd.returns] at h; cases h)
  refine ⟨_, _, ?_, hrun, hended, _, _, rfl, ?_, ⟨_, rfl⟩, hW, hsame.mono (by decide) (by decide)⟩
  · jvm_step X2.here [X2.here.top, hx, (hb hby d21_4), X2.method', Bd.returns, Value.isRef, FieldType.isReference]
    first | (intro acts; rw [hr _ acts rfl rfl rfl]) | rw [hr _ _ rfl rfl rfl]
    exact Steps.refl _
  · show Q_rmGv Z _ _ h0 n0 _ T2.heap _
    rw [e2]
    exact ⟨rfl, N0, rfl⟩
theorem ef_rmABl (m : MethodId) (x0 : Nat) : entryFrame m #[(.ref x0)] 1 = mkF m 0 #[.val (.ref x0)] [] := by first | (simp [entryFrame, mkF, argsToLocals, Value.category]; done) | rfl
theorem d23_0 : decode jdk_68_method_6_code 0 = .ok (.aload_n 0, 1) := by decide +kernel
theorem d23_1 : decode jdk_68_method_6_code 1 = .ok (.getfield 79, 3) := by decide +kernel
theorem d23_4 : decode jdk_68_method_6_code 4 = .ok (.ireturn, 1) := by decide +kernel
def Q_rmABl (Z : State) (sb : Nat) (cn : Int32) (h0 : Heap) (n0 : Nat) (v : Option Value) (h : Heap) (L : List Loc) : Prop := v = some (.int cn) ∧ Fr n0 L ∧ h = h0
set_option maxRecDepth 65536 in
set_option maxHeartbeats 40000000 in
theorem rmABl (l : Launch) (Z : State) (a0 : Array Value) (hw : ∀ d ∈ tables_1, d.before a0 Z = true) (ws : List Jvm.Cond) (sb : Nat) (cn : Int32) (h0 : Heap) (n0 : Nat) (Z0 : n0 ≤ h0.size) (P1 : Fld Z h0 sb "java/lang/AbstractStringBuilder" "count" "I" (.int cn)) (OLD : Old Z n0 h0) :
    MetFree l (⟨"java/lang/AbstractStringBuilder", "length", "()I"⟩ : MethodName) (head1 (Jvm.Cond.code (⟨"java/lang/AbstractStringBuilder", "length", "()I"⟩ : MethodName) jdk_68_method_6_code 1 (some .int) :: ws) ({ frames := 0, cells := 0, slots := 0, locals := 0 } : Room)) (fun a U => a = #[(.ref sb)] ∧ Z.Warmed39 U.vm ∧ U.heap = h0) (fun _ _ _ _ _ => True) (fun _ U o U' => ∃ v L, o = .returned v ∧ Q_rmABl Z sb cn h0 n0 v U'.heap L ∧ FrameEnd U o U' L ({ frames := 0, cells := 0, slots := 0, locals := 0 } : Room).cells ({ frames := 0, cells := 0, slots := 0, locals := 0 } : Room).slots) := by
  refine MetFree.of_bodySF (plainFor_of_name pn_java_lang_AbstractStringBuilder) hisR ?_
  intro p e s m args below meth c s₁ Bd hml0 hP hK
  obtain ⟨rfl, hZ, hh⟩ := hP
  have hx := Bd.exec
  have hby := Bd.bytes
  have hml : c.maxLocals = 1 := hml0
  have hown : s.vm.findClass "java/lang/AbstractStringBuilder" = some m.cls := findClass_of_methodNamed Bd.named
  have hnm := (name_of_methodNamed Bd.named Bd.method).1
  have X0 : Stand p l e ({ frames := 0, cells := 0, slots := 0, locals := 0 } : Room) s m #[(.ref sb)] below meth c s₁ [] 0 0 := Stand.of_body Bd
  have e0 : s₁.heap = h0 := by rw [← hh, Bd.state]; rfl
  have N0 := Fr.nil n0
  have pre0 : ∀ t, Steps p.tables e below (s₁.setTop (mkF m 0 #[.val (.ref sb)] [])) t → Steps p.tables e below (s₁.setTop (entryFrame m #[(.ref sb)] 1)) t := fun t k => castTop (ef_rmABl m sb) k
  have oz := OLD.1
  have lt_sb : sb < h0.size := P1.lt
  refine own_go (B := s₁.setTop (mkF m 0 #[.val (.ref sb)] [])) pre0 ?_
  show ∃ t o, Steps p.tables e below (s₁.setTop (mkF m 0 #[.val (.ref sb)] [])) t ∧ _
  refine own_go (fun _ => XS.aloadN X0.here hx rfl (hb hby d23_0) rfl rfl) ?_
  obtain ⟨T2, X2, e2, st2⟩ := getF X0 hx hZ hown (host := "") (Or.inl (hw _ (List.mem_of_getElem? (i := 88) rfl))) Via.refl e0 P1 (g := (mkF m 1 #[.val (.ref sb)] [(.ref sb)])) rfl rfl (hb hby d23_1)
  refine own_go st2 ?_
  show ∃ t o, Steps p.tables e below (T2.setTop (mkF m 4 #[.val (.ref sb)] [(.int cn)])) t ∧ _
  obtain ⟨fs, hr, hrun, hended, hW, hsame⟩ := X2.leave (v := some (.int cn)) (fun h => by rw [Bd.returns] at h; cases h)
  refine ⟨_, _, ?_, hrun, hended, _, _, rfl, ?_, ⟨_, rfl⟩, hW, hsame.mono (by decide) (by decide)⟩
  · exact retI X2 hx Bd.returns (hb hby d23_4) hr
  · show Q_rmABl Z _ _ h0 n0 _ T2.heap _
    rw [e2]
    exact ⟨rfl, N0, rfl⟩
theorem ef_rmSBl (m : MethodId) (x0 : Nat) : entryFrame m #[(.ref x0)] 1 = mkF m 0 #[.val (.ref x0)] [] := by first | (simp [entryFrame, mkF, argsToLocals, Value.category]; done) | rfl
theorem d22_0 : decode jdk_67_method_93_code 0 = .ok (.aload_n 0, 1) := by decide +kernel
theorem d22_1 : decode jdk_67_method_93_code 1 = .ok (.invokespecial 343, 3) := by decide +kernel
theorem d22_4 : decode jdk_67_method_93_code 4 = .ok (.ireturn, 1) := by decide +kernel
def Q_rmSBl (Z : State) (sb : Nat) (cn : Int32) (h0 : Heap) (n0 : Nat) (v : Option Value) (h : Heap) (L : List Loc) : Prop := v = some (.int cn) ∧ Fr n0 L ∧ h = h0
set_option maxRecDepth 65536 in
set_option maxHeartbeats 40000000 in
theorem rmSBl (l : Launch) (Z : State) (a0 : Array Value) (hw : ∀ d ∈ tables_1, d.before a0 Z = true) (ws : List Jvm.Cond) (sb : Nat) (cn : Int32) (h0 : Heap) (n0 : Nat) (Z0 : n0 ≤ h0.size) (P1 : Exa Z h0 sb "java/lang/StringBuilder") (P2 : Fld Z h0 sb "java/lang/AbstractStringBuilder" "count" "I" (.int cn)) (OLD : Old Z n0 h0) :
    MetFree l (⟨"java/lang/StringBuilder", "length", "()I"⟩ : MethodName) (head1 (Jvm.Cond.code (⟨"java/lang/StringBuilder", "length", "()I"⟩ : MethodName) jdk_67_method_93_code 1 (some .int) :: ws) ({ frames := 1, cells := 0, slots := 0, locals := 12 } : Room)) (fun a U => a = #[(.ref sb)] ∧ Z.Warmed39 U.vm ∧ U.heap = h0) (fun _ _ _ _ _ => True) (fun _ U o U' => ∃ v L, o = .returned v ∧ Q_rmSBl Z sb cn h0 n0 v U'.heap L ∧ FrameEnd U o U' L ({ frames := 1, cells := 0, slots := 0, locals := 12 } : Room).cells ({ frames := 1, cells := 0, slots := 0, locals := 12 } : Room).slots) := by
  refine MetFree.of_bodySF (plainFor_of_name pn_java_lang_StringBuilder) hisR ?_
  intro p e s m args below meth c s₁ Bd hml0 hP hK
  obtain ⟨rfl, hZ, hh⟩ := hP
  have hx := Bd.exec
  have hby := Bd.bytes
  have hml : c.maxLocals = 1 := hml0
  have hown : s.vm.findClass "java/lang/StringBuilder" = some m.cls := findClass_of_methodNamed Bd.named
  have hnm := (name_of_methodNamed Bd.named Bd.method).1
  have X0 : Stand p l e ({ frames := 1, cells := 0, slots := 0, locals := 12 } : Room) s m #[(.ref sb)] below meth c s₁ [] 0 0 := Stand.of_body Bd
  have e0 : s₁.heap = h0 := by rw [← hh, Bd.state]; rfl
  have N0 := Fr.nil n0
  have pre0 : ∀ t, Steps p.tables e below (s₁.setTop (mkF m 0 #[.val (.ref sb)] [])) t → Steps p.tables e below (s₁.setTop (entryFrame m #[(.ref sb)] 1)) t := fun t k => castTop (ef_rmSBl m sb) k
  have oz := OLD.1
  have lt_sb : sb < h0.size := P1.lt
  refine own_go (B := s₁.setTop (mkF m 0 #[.val (.ref sb)] [])) pre0 ?_
  show ∃ t o, Steps p.tables e below (s₁.setTop (mkF m 0 #[.val (.ref sb)] [])) t ∧ _
  refine own_go (fun _ => XS.aloadN X0.here hx rfl (hb hby d22_0) rfl rfl) ?_
  show ∃ t o, Steps p.tables e below (s₁.setTop (mkF m 1 #[.val (.ref sb)] [(.ref sb)])) t ∧ _
  obtain ⟨_, _, ⟨T3, L3, k3, n3⟩, -, X3, ⟨Lc3, hQ3, l3, y3, z3⟩, st3⟩ := superBack X0 hx hZ (y := (⟨"java/lang/AbstractStringBuilder", "length", "()I"⟩ : MethodName)) hown (hw _ (List.mem_of_getElem? (i := 139) rfl)) (own_same (y := (⟨"java/lang/AbstractStringBuilder", "length", "()I"⟩ : MethodName)) (hw _ (List.mem_of_getElem? (i := 93) rfl)) rfl (hw _ (List.mem_of_getElem? (i := 135) rfl)) (by decide)) (hw _ (List.mem_of_getElem? (i := 135) rfl)) (hw _ (List.mem_of_getElem? (i := 74) rfl)) (by decide) (backOf (W := 0) (rmABl l Z a0 hw [] sb cn h0 n0 Z0 P2 OLD) hZ (hw _ (List.mem_of_getElem? (i := 140) rfl)) (hw _ (List.mem_of_getElem? (i := 59) rfl)) (by decide) (by decide)) e0 (Ins.self P1) (g := (mkF m 1 #[.val (.ref sb)] [(.ref sb)])) rfl (by rw [hml]; rfl) (hw _ (List.mem_of_getElem? (i := 140) rfl)) (argsL := []) (rest := []) (lenOf pd__28_29I rfl) rfl (by show 2 * 0 + _ ≤ _; exact Nat.le_of_eq rfl) (hb hby d22_1) (fun _ _ => ⟨rfl, e0, (by decide : 0 + 0 ≤ _), (by decide : 0 + 0 ≤ _)⟩)
  dsimp only [Pt.U, Pt.locs, Pt.cells, Pt.slots] at X3 l3 y3 z3 st3 hQ3
  rw [l3, y3, z3] at X3
  obtain ⟨rfl, Nq3, e3⟩ := hQ3
  have N3 := Fr.app N0 Nq3
  refine own_goT st3 ?_
  show ∃ t o, Steps p.tables e below (T3.setTop (mkF m 4 #[.val (.ref sb)] [(.int cn)])) t ∧ _
  obtain ⟨fs, hr, hrun, hended, hW, hsame⟩ := X3.leave (v := some (.int cn)) (fun h => by rw [Bd.returns] at h; cases h)
  refine ⟨_, _, ?_, hrun, hended, _, _, rfl, ?_, ⟨_, rfl⟩, hW, hsame.mono (by decide) (by decide)⟩
  · exact retI X3 hx Bd.returns (hb hby d22_4) hr
  · show Q_rmSBl Z _ _ h0 n0 _ T3.heap _
    rw [e3]
    exact ⟨rfl, N3, rfl⟩
theorem ef_rmABL1 (m : MethodId) (x0 : Nat) : entryFrame m #[(.ref x0)] 1 = mkF m 0 #[.val (.ref x0)] [] := by first | (simp [entryFrame, mkF, argsToLocals, Value.category]; done) | rfl
theorem d24_0 : decode jdk_68_method_68_code 0 = .ok (.getstatic 18, 3) := by decide +kernel
theorem d24_3 : decode jdk_68_method_68_code 3 = .ok (.ifCond .eq 14, 3) := by decide +kernel
theorem d24_6 : decode jdk_68_method_68_code 6 = .ok (.aload_n 0, 1) := by decide +kernel
theorem d24_7 : decode jdk_68_method_68_code 7 = .ok (.getfield 22, 3) := by decide +kernel
theorem d24_10 : decode jdk_68_method_68_code 10 = .ok (.ifCond .ne 7, 3) := by decide +kernel
theorem d24_13 : decode jdk_68_method_68_code 13 = .ok (.iconst 1, 1) := by decide +kernel
theorem d24_14 : decode jdk_68_method_68_code 14 = .ok (.goto 4, 3) := by decide +kernel
theorem d24_18 : decode jdk_68_method_68_code 18 = .ok (.ireturn, 1) := by decide +kernel
def Q_rmABL1 (Z : State) (sb : Nat) (zc : Int32) (h0 : Heap) (n0 : Nat) (v : Option Value) (h : Heap) (L : List Loc) : Prop := v = some (.int (1 : Int32)) ∧ Fr n0 L ∧ h = h0
set_option maxRecDepth 65536 in
set_option maxHeartbeats 40000000 in
theorem rmABL1 (l : Launch) (Z : State) (a0 : Array Value) (hw : ∀ d ∈ tables_1, d.before a0 Z = true) (ws : List Jvm.Cond) (sb : Nat) (zc : Int32) (h0 : Heap) (n0 : Nat) (Z0 : n0 ≤ h0.size) (P1 : Fld Z h0 sb "java/lang/AbstractStringBuilder" "coder" "B" (.int (0 : Int32))) (OLD : Old Z n0 h0) (P2 : Sta Z Z.heap "java/lang/String" "COMPACT_STRINGS" "Z" (.int zc)) (hzc : ¬ (zc = (0 : Int32))) :
    MetFree l (⟨"java/lang/AbstractStringBuilder", "isLatin1", "()Z"⟩ : MethodName) (head1 (Jvm.Cond.code (⟨"java/lang/AbstractStringBuilder", "isLatin1", "()Z"⟩ : MethodName) jdk_68_method_68_code 1 (some .boolean) :: ws) ({ frames := 0, cells := 0, slots := 0, locals := 0 } : Room)) (fun a U => a = #[(.ref sb)] ∧ Z.Warmed39 U.vm ∧ U.heap = h0) (fun _ _ _ _ _ => True) (fun _ U o U' => ∃ v L, o = .returned v ∧ Q_rmABL1 Z sb zc h0 n0 v U'.heap L ∧ FrameEnd U o U' L ({ frames := 0, cells := 0, slots := 0, locals := 0 } : Room).cells ({ frames := 0, cells := 0, slots := 0, locals := 0 } : Room).slots) := by
  refine MetFree.of_bodySF (plainFor_of_name pn_java_lang_AbstractStringBuilder) hisR ?_
  intro p e s m args below meth c s₁ Bd hml0 hP hK
  obtain ⟨rfl, hZ, hh⟩ := hP
  have hx := Bd.exec
  have hby := Bd.bytes
  have hml : c.maxLocals = 1 := hml0
  have hown : s.vm.findClass "java/lang/AbstractStringBuilder" = some m.cls := findClass_of_methodNamed Bd.named
  have hnm := (name_of_methodNamed Bd.named Bd.method).1
  have X0 : Stand p l e ({ frames := 0, cells := 0, slots := 0, locals := 0 } : Room) s m #[(.ref sb)] below meth c s₁ [] 0 0 := Stand.of_body Bd
  have e0 : s₁.heap = h0 := by rw [← hh, Bd.state]; rfl
  have N0 := Fr.nil n0
  have pre0 : ∀ t, Steps p.tables e below (s₁.setTop (mkF m 0 #[.val (.ref sb)] [])) t → Steps p.tables e below (s₁.setTop (entryFrame m #[(.ref sb)] 1)) t := fun t k => castTop (ef_rmABL1 m sb) k
  have oz := OLD.1
  have lt_sb : sb < h0.size := P1.lt
  refine own_go (B := s₁.setTop (mkF m 0 #[.val (.ref sb)] [])) pre0 ?_
  show ∃ t o, Steps p.tables e below (s₁.setTop (mkF m 0 #[.val (.ref sb)] [])) t ∧ _
  obtain ⟨T3, X3, e3, st3⟩ := getS2 X0 hx hZ hown (host := "") (Or.inl (hw _ (List.mem_of_getElem? (i := 62) rfl))) Via.refl e0 (Sta.ext OLD.2 P2) (g := (mkF m 0 #[.val (.ref sb)] [])) rfl (hb hby d24_0)
  refine own_go st3 ?_
  show ∃ t o, Steps p.tables e below (T3.setTop (mkF m 3 #[.val (.ref sb)] [(.int zc)])) t ∧ _
  refine own_go (fun _ => XS.ifNo X3.here hx rfl (hb hby d24_3) rfl ((if0 _ _).trans (feq hzc).1)) ?_
  refine own_go (fun _ => XS.aloadN X3.here hx rfl (hb hby d24_6) rfl rfl) ?_
  obtain ⟨T4, X4, e4, st4⟩ := getF X3 hx hZ hown (host := "") (Or.inl (hw _ (List.mem_of_getElem? (i := 65) rfl))) Via.refl e3 P1 (g := (mkF m 7 #[.val (.ref sb)] [(.ref sb)])) rfl rfl (hb hby d24_7)
  refine own_go st4 ?_
  show ∃ t o, Steps p.tables e below (T4.setTop (mkF m 10 #[.val (.ref sb)] [(.int (0 : Int32))])) t ∧ _
  refine own_go (fun _ => XS.ifNo X4.here hx rfl (hb hby d24_10) rfl ((if0 _ _).trans (teq (by decide : (0 : Int32) = (0 : Int32))).2)) ?_
  refine own_go (fun _ => XS.iconst X4.here hx rfl (hb hby d24_13)) ?_
  refine own_go (fun _ => XS.goto X4.here hx rfl (pc0 := 14) (pc' := 18) rfl (hb hby d24_14) (by decide) (by decide)) ?_
  show ∃ t o, Steps p.tables e below (T4.setTop (mkF m 18 #[.val (.ref sb)] [(.int (1 : Int32))])) t ∧ _
  obtain ⟨fs, hr, hrun, hended, hW, hsame⟩ := X4.leave (v := some (.int (1 : Int32))) (fun h => by rw [Bd.returns] at h; cases h)
  refine ⟨_, _, ?_, hrun, hended, _, _, rfl, ?_, ⟨_, rfl⟩, hW, hsame.mono (by decide) (by decide)⟩
  · exact retN X4 hx (t := .boolean) Bd.returns (by simp) (hb hby d24_18) hr
  · show Q_rmABL1 Z _ _ h0 n0 _ T4.heap _
    rw [e4]
    exact ⟨rfl, N0, rfl⟩
theorem ef_rmST2 (m : MethodId) (x0 : Nat) (x1 : Nat) : entryFrame m #[(.ref x0), (.ref x1), .null] 5 = mkF m 0 #[.val (.ref x0), .val (.ref x1), .val .null, .unset, .unset] [] := by first | (simp [entryFrame, mkF, argsToLocals, Value.category]; done) | rfl
theorem d20_0 : decode jdk_42_method_150_code 0 = .ok (.aload_n 0, 1) := by decide +kernel
theorem d20_1 : decode jdk_42_method_150_code 1 = .ok (.invokespecial 1, 3) := by decide +kernel
theorem d20_4 : decode jdk_42_method_150_code 4 = .ok (.aload_n 1, 1) := by decide +kernel
theorem d20_5 : decode jdk_42_method_150_code 5 = .ok (.invokevirtual 552, 3) := by decide +kernel
theorem pd__28_29_5bB : parseMethodDescriptor "()[B" = some ⟨[], some (.array .byte)⟩ := by decide +kernel
theorem d20_8 : decode jdk_42_method_150_code 8 = .ok (.astore_n 3, 1) := by decide +kernel
theorem d20_9 : decode jdk_42_method_150_code 9 = .ok (.aload_n 1, 1) := by decide +kernel
theorem d20_10 : decode jdk_42_method_150_code 10 = .ok (.invokevirtual 549, 3) := by decide +kernel
theorem d20_13 : decode jdk_42_method_150_code 13 = .ok (.istore 4, 2) := by decide +kernel
theorem d20_15 : decode jdk_42_method_150_code 15 = .ok (.aload_n 1, 1) := by decide +kernel
theorem d20_16 : decode jdk_42_method_150_code 16 = .ok (.invokevirtual 1047, 3) := by decide +kernel
theorem pd__28_29Z : parseMethodDescriptor "()Z" = some ⟨[], some .boolean⟩ := by decide +kernel
theorem d20_19 : decode jdk_42_method_150_code 19 = .ok (.ifCond .eq 22, 3) := by decide +kernel
theorem d20_22 : decode jdk_42_method_150_code 22 = .ok (.aload_n 0, 1) := by decide +kernel
theorem d20_23 : decode jdk_42_method_150_code 23 = .ok (.iconst 0, 1) := by decide +kernel
theorem d20_24 : decode jdk_42_method_150_code 24 = .ok (.putfield 15, 3) := by decide +kernel
theorem d20_27 : decode jdk_42_method_150_code 27 = .ok (.aload_n 0, 1) := by decide +kernel
theorem d20_28 : decode jdk_42_method_150_code 28 = .ok (.aload_n 3, 1) := by decide +kernel
theorem d20_29 : decode jdk_42_method_150_code 29 = .ok (.iconst 0, 1) := by decide +kernel
theorem d20_30 : decode jdk_42_method_150_code 30 = .ok (.iload 4, 2) := by decide +kernel
theorem d20_32 : decode jdk_42_method_150_code 32 = .ok (.invokestatic 54, 3) := by decide +kernel
theorem d20_35 : decode jdk_42_method_150_code 35 = .ok (.putfield 9, 3) := by decide +kernel
theorem d20_38 : decode jdk_42_method_150_code 38 = .ok (.goto 59, 3) := by decide +kernel
theorem d20_97 : decode jdk_42_method_150_code 97 = .ok (.return_, 1) := by decide +kernel
def Q_rmST2 (Z : State) (a1 : Nat) (sb : Nat) (vb : Nat) (kv : ClassId) (us : List Value) (cn : Int32) (zc : Int32) (h0 : Heap) (n0 : Nat) (v : Option Value) (h : Heap) (L : List Loc) : Prop := ∃ (tb : Nat), ∃ (kb : ClassId), v = none ∧ Fr n0 L ∧ Keep h0 h [a1] ∧ Exa Z h a1 "java/lang/String" ∧ Fld Z h a1 "java/lang/String" "value" "[B" (.ref tb) ∧ Fld Z h a1 "java/lang/String" "coder" "B" (.int (0 : Int32)) ∧ Arv Z h tb kb .byte cn us (.int (0 : Int32))
set_option maxRecDepth 65536 in
set_option maxHeartbeats 40000000 in
theorem rmST2 (l : Launch) (Z : State) (a0 : Array Value) (hw : ∀ d ∈ tables_1, d.before a0 Z = true) (ws : List Jvm.Cond) (a1 : Nat) (sb : Nat) (vb : Nat) (kv : ClassId) (us : List Value) (cn : Int32) (zc : Int32) (h0 : Heap) (n0 : Nat) (Z0 : n0 ≤ h0.size) (P1 : Exa Z h0 a1 "java/lang/String") (P2 : Fld Z h0 a1 "java/lang/String" "value" "[B" .null) (P3 : Fld Z h0 a1 "java/lang/String" "coder" "B" (.int (0 : Int32))) (P4 : Exa Z h0 sb "java/lang/StringBuilder") (P5 : Fld Z h0 sb "java/lang/AbstractStringBuilder" "value" "[B" (.ref vb)) (P6 : Fld Z h0 sb "java/lang/AbstractStringBuilder" "coder" "B" (.int (0 : Int32))) (P7 : Fld Z h0 sb "java/lang/AbstractStringBuilder" "count" "I" (.int cn)) (P8 : Arv Z h0 vb kv .byte (16 : Int32) us (.int (0 : Int32))) (OLD : Old Z n0 h0) (P9 : Sta Z Z.heap "java/lang/String" "COMPACT_STRINGS" "Z" (.int zc)) (hzc : ¬ (zc = (0 : Int32))) (f2 : own_fit us cn) (hbn : us.length ≤ 15) (ga : n0 ≤ a1) (ha2 : vb ≠ a1) :
    MetFree l (⟨"java/lang/String", "<init>", "(Ljava/lang/AbstractStringBuilder;Ljava/lang/Void;)V"⟩ : MethodName) (head1 (Jvm.Cond.code (⟨"java/lang/String", "<init>", "(Ljava/lang/AbstractStringBuilder;Ljava/lang/Void;)V"⟩ : MethodName) jdk_42_method_150_code 5 none :: ws) ({ frames := 3, cells := 1, slots := 15, locals := 49 } : Room)) (fun a U => a = #[(.ref a1), (.ref sb), .null] ∧ Z.Warmed39 U.vm ∧ U.heap = h0) (fun _ _ _ _ _ => True) (fun _ U o U' => ∃ v L, o = .returned v ∧ Q_rmST2 Z a1 sb vb kv us cn zc h0 n0 v U'.heap L ∧ FrameEnd U o U' L ({ frames := 3, cells := 1, slots := 15, locals := 49 } : Room).cells ({ frames := 3, cells := 1, slots := 15, locals := 49 } : Room).slots) := by
  refine MetFree.of_bodySF (plainFor_of_name pn_java_lang_String) hisR ?_
  intro p e s m args below meth c s₁ Bd hml0 hP hK
  obtain ⟨rfl, hZ, hh⟩ := hP
  have hx := Bd.exec
  have hby := Bd.bytes
  have hml : c.maxLocals = 5 := hml0
  have hown : s.vm.findClass "java/lang/String" = some m.cls := findClass_of_methodNamed Bd.named
  have hnm := (name_of_methodNamed Bd.named Bd.method).1
  have X0 : Stand p l e ({ frames := 3, cells := 1, slots := 15, locals := 49 } : Room) s m #[(.ref a1), (.ref sb), .null] below meth c s₁ [] 0 0 := Stand.of_body Bd
  have e0 : s₁.heap = h0 := by rw [← hh, Bd.state]; rfl
  have N0 := Fr.nil n0
  have pre0 : ∀ t, Steps p.tables e below (s₁.setTop (mkF m 0 #[.val (.ref a1), .val (.ref sb), .val .null, .unset, .unset] [])) t → Steps p.tables e below (s₁.setTop (entryFrame m #[(.ref a1), (.ref sb), .null] 5)) t := fun t k => castTop (ef_rmST2 m a1 sb) k
  have oz := OLD.1
  have lt_a1 : a1 < h0.size := P1.lt
  have lt_sb : sb < h0.size := P4.lt
  have lt_vb : vb < h0.size := P8.lt
  refine own_go (B := s₁.setTop (mkF m 0 #[.val (.ref a1), .val (.ref sb), .val .null, .unset, .unset] [])) pre0 ?_
  show ∃ t o, Steps p.tables e below (s₁.setTop (mkF m 0 #[.val (.ref a1), .val (.ref sb), .val .null, .unset, .unset] [])) t ∧ _
  refine own_go (fun _ => XS.aloadN X0.here hx rfl (hb hby d20_0) rfl rfl) ?_
  show ∃ t o, Steps p.tables e below (s₁.setTop (mkF m 1 #[.val (.ref a1), .val (.ref sb), .val .null, .unset, .unset] [(.ref a1)])) t ∧ _
  obtain ⟨T10, X10, e10, st10⟩ := initO X0 hx hZ hown (hw _ (List.mem_of_getElem? (i := 15) rfl)) (hw _ (List.mem_of_getElem? (i := 16) rfl)) (hw _ (List.mem_of_getElem? (i := 17) rfl)) e0 (g := (mkF m 1 #[.val (.ref a1), .val (.ref sb), .val .null, .unset, .unset] [(.ref a1)])) rfl (by rw [hml]; rfl) rfl (hb hby d20_1) (by decide) (W := 0) (by show 2 * 0 + _ ≤ _; exact Nat.le_of_eq rfl) (by decide)
  refine own_go st10 ?_
  refine own_go (fun _ => XS.aloadN X10.here hx rfl (hb hby d20_4) rfl rfl) ?_
  show ∃ t o, Steps p.tables e below (T10.setTop (mkF m 5 #[.val (.ref a1), .val (.ref sb), .val .null, .unset, .unset] [(.ref sb)])) t ∧ _
  obtain ⟨cq11, kq11, q11a, q11b, q11c⟩ := isOf hZ e10 P4
  obtain ⟨_, _, ⟨T11, L11, k11, n11⟩, -, X11, ⟨Lc11, hQ11, l11, y11, z11⟩, st11⟩ := X10.virtualBack hx (y := (⟨"java/lang/AbstractStringBuilder", "getValue", "()[B"⟩ : MethodName)) (z := (⟨"java/lang/AbstractStringBuilder", "getValue", "()[B"⟩ : MethodName)) hown (mvT hZ (hw _ (List.mem_of_getElem? (i := 128) rfl))) (mvT hZ (hw _ (List.mem_of_getElem? (i := 129) rfl))) (notFace_of_selects (args := #[]) (mvT hZ (hw _ (List.mem_of_getElem? (i := 131) rfl)))) (mvT hZ (hw _ (List.mem_of_getElem? (i := 131) rfl))) (mvT hZ (hw _ (List.mem_of_getElem? (i := 130) rfl))) (by decide) (backOf (W := 0) (rmGv l Z a0 hw [] sb vb h0 n0 Z0 P5 OLD) hZ (hw _ (List.mem_of_getElem? (i := 132) rfl)) (hw _ (List.mem_of_getElem? (i := 59) rfl)) (by decide) (by decide)) q11a q11c (g := (mkF m 5 #[.val (.ref a1), .val (.ref sb), .val .null, .unset, .unset] [(.ref sb)])) rfl (by rw [hml]; rfl) (Steps.refl _) (argsL := []) (rest := []) (lenOf pd__28_29_5bB rfl) rfl (by show 2 * 0 + _ ≤ _; exact Nat.le_of_eq rfl) (hb hby d20_5) (fun _ _ => ⟨rfl, e10, (by decide : 0 + 0 ≤ _), (by decide : 0 + 0 ≤ _)⟩)
  dsimp only [Pt.U, Pt.locs, Pt.cells, Pt.slots] at X11 l11 y11 z11 st11 hQ11
  rw [l11, y11, z11] at X11
  obtain ⟨rfl, Nq11, e11⟩ := hQ11
  have N11 := Fr.app N0 Nq11
  refine own_goT st11 ?_
  refine own_go (fun _ => XS.astoreN X11.here hx rfl (hb hby d20_8) rfl rfl (l' := #[.val (.ref a1), .val (.ref sb), .val .null, .val (.ref vb), .unset]) rfl) ?_
  refine own_go (fun _ => XS.aloadN X11.here hx rfl (hb hby d20_9) rfl rfl) ?_
  show ∃ t o, Steps p.tables e below (T11.setTop (mkF m 10 #[.val (.ref a1), .val (.ref sb), .val .null, .val (.ref vb), .unset] [(.ref sb)])) t ∧ _
  obtain ⟨cq12, kq12, q12a, q12b, q12c⟩ := isOf hZ e11 P4
  obtain ⟨_, _, ⟨T12, L12, k12, n12⟩, -, X12, ⟨Lc12, hQ12, l12, y12, z12⟩, st12⟩ := X11.virtualBack hx (y := (⟨"java/lang/AbstractStringBuilder", "length", "()I"⟩ : MethodName)) (z := (⟨"java/lang/StringBuilder", "length", "()I"⟩ : MethodName)) hown (mvT hZ (hw _ (List.mem_of_getElem? (i := 133) rfl))) (mvT hZ (hw _ (List.mem_of_getElem? (i := 134) rfl))) (own_nfo (args := #[]) (mvT hZ (hw _ (List.mem_of_getElem? (i := 93) rfl))) rfl) (mvT hZ (hw _ (List.mem_of_getElem? (i := 136) rfl))) (mvT hZ (hw _ (List.mem_of_getElem? (i := 137) rfl))) (by decide) (backOf (W := 0) (rmSBl l Z a0 hw [] sb cn h0 n0 Z0 P4 P7 OLD) hZ (hw _ (List.mem_of_getElem? (i := 138) rfl)) (hw _ (List.mem_of_getElem? (i := 51) rfl)) (by decide) (by decide)) q12a q12c (g := (mkF m 10 #[.val (.ref a1), .val (.ref sb), .val .null, .val (.ref vb), .unset] [(.ref sb)])) rfl (by rw [hml]; rfl) (Steps.refl _) (argsL := []) (rest := []) (lenOf pd__28_29I rfl) rfl (by show 2 * 0 + _ ≤ _; exact Nat.le_of_eq rfl) (hb hby d20_10) (fun _ _ => ⟨rfl, e11, (by decide : 0 + 0 ≤ _), (by decide : 0 + 0 ≤ _)⟩)
  dsimp only [Pt.U, Pt.locs, Pt.cells, Pt.slots] at X12 l12 y12 z12 st12 hQ12
  rw [l12, y12, z12] at X12
  obtain ⟨rfl, Nq12, e12⟩ := hQ12
  have N12 := Fr.app N11 Nq12
  refine own_goT st12 ?_
  refine own_go (fun _ => XS.istore X12.here hx rfl (hb hby d20_13) rfl (l' := #[.val (.ref a1), .val (.ref sb), .val .null, .val (.ref vb), .val (.int cn)]) rfl) ?_
  refine own_go (fun _ => XS.aloadN X12.here hx rfl (hb hby d20_15) rfl rfl) ?_
  show ∃ t o, Steps p.tables e below (T12.setTop (mkF m 16 #[.val (.ref a1), .val (.ref sb), .val .null, .val (.ref vb), .val (.int cn)] [(.ref sb)])) t ∧ _
  obtain ⟨cq13, kq13, q13a, q13b, q13c⟩ := isOf hZ e12 P4
  obtain ⟨_, _, ⟨T13, L13, k13, n13⟩, -, X13, ⟨Lc13, hQ13, l13, y13, z13⟩, st13⟩ := X12.virtualBack hx (y := (⟨"java/lang/AbstractStringBuilder", "isLatin1", "()Z"⟩ : MethodName)) (z := (⟨"java/lang/AbstractStringBuilder", "isLatin1", "()Z"⟩ : MethodName)) hown (mvT hZ (hw _ (List.mem_of_getElem? (i := 141) rfl))) (mvT hZ (hw _ (List.mem_of_getElem? (i := 142) rfl))) (notFace_of_selects (args := #[]) (mvT hZ (hw _ (List.mem_of_getElem? (i := 144) rfl)))) (mvT hZ (hw _ (List.mem_of_getElem? (i := 144) rfl))) (mvT hZ (hw _ (List.mem_of_getElem? (i := 143) rfl))) (by decide) (backOf (W := 0) (rmABL1 l Z a0 hw [] sb zc h0 n0 Z0 P6 OLD P9 hzc) hZ (hw _ (List.mem_of_getElem? (i := 145) rfl)) (hw _ (List.mem_of_getElem? (i := 59) rfl)) (by decide) (by decide)) q13a q13c (g := (mkF m 16 #[.val (.ref a1), .val (.ref sb), .val .null, .val (.ref vb), .val (.int cn)] [(.ref sb)])) rfl (by rw [hml]; rfl) (Steps.refl _) (argsL := []) (rest := []) (lenOf pd__28_29Z rfl) rfl (by show 2 * 0 + _ ≤ _; exact Nat.le_of_eq rfl) (hb hby d20_16) (fun _ _ => ⟨rfl, e12, (by decide : 0 + 0 ≤ _), (by decide : 0 + 0 ≤ _)⟩)
  dsimp only [Pt.U, Pt.locs, Pt.cells, Pt.slots] at X13 l13 y13 z13 st13 hQ13
  rw [l13, y13, z13] at X13
  obtain ⟨rfl, Nq13, e13⟩ := hQ13
  have N13 := Fr.app N12 Nq13
  refine own_goT st13 ?_
  show ∃ t o, Steps p.tables e below (T13.setTop (mkF m 19 #[.val (.ref a1), .val (.ref sb), .val .null, .val (.ref vb), .val (.int cn)] [(.int (1 : Int32))])) t ∧ _
  refine own_go (fun _ => XS.ifNo X13.here hx rfl (hb hby d20_19) rfl ((if0 _ _).trans (feq (by decide : ¬ ((1 : Int32) = (0 : Int32)))).1)) ?_
  refine own_go (fun _ => XS.aloadN X13.here hx rfl (hb hby d20_22) rfl rfl) ?_
  refine own_go (fun _ => XS.iconst X13.here hx rfl (hb hby d20_23)) ?_
  show ∃ t o, Steps p.tables e below (T13.setTop (mkF m 24 #[.val (.ref a1), .val (.ref sb), .val .null, .val (.ref vb), .val (.int cn)] [(.int (0 : Int32)), (.ref a1)])) t ∧ _
  obtain ⟨T14, h14, X14, e14, W14, st14⟩ := putFN X13 hx hZ hown (hw _ (List.mem_of_getElem? (i := 25) rfl)) Via.refl e13 P3 P1 (Or.inr ⟨(hw _ (List.mem_of_getElem? (i := 21) rfl)), rfl, hnm⟩) (hw _ (List.mem_of_getElem? (i := 5) rfl)) (ty := .byte) (v' := (.int (0 : Int32).toInt8.toInt32)) (by decide) rfl (fits_nar_byte _) (g := (mkF m 24 #[.val (.ref a1), .val (.ref sb), .val .null, .val (.ref vb), .val (.int cn)] [(.int (0 : Int32)), (.ref a1)])) rfl rfl (hb hby d20_24)
  refine own_go st14 ?_
  have le_14 : h0.size ≤ h14.size := Nat.le_of_eq W14.size.symm
  have K14 : Keep h0 h14 [a1] := Keep.wr (Keep.refl h0 [a1]) W14 (Or.inl (List.mem_of_getElem? (i := 0) rfl))
  have N14 := Fr.snoc X14 N13 ga
  have Fw14 := Fld.same W14 P3
  have Fcz : Fld Z h14 a1 "java/lang/String" "coder" "B" (.int (0 : Int32)) := Fw14
  refine own_go (fun _ => XS.aloadN X14.here hx rfl (hb hby d20_27) rfl rfl) ?_
  refine own_go (fun _ => XS.aloadN X14.here hx rfl (hb hby d20_28) rfl rfl) ?_
  show ∃ t o, Steps p.tables e below (T14.setTop (mkF m 29 #[.val (.ref a1), .val (.ref sb), .val .null, .val (.ref vb), .val (.int cn)] [(.ref vb), (.ref a1)])) t ∧ _
  refine own_go (fun _ => XS.iconst X14.here hx rfl (hb hby d20_29)) ?_
  refine own_go (fun _ => XS.iload X14.here hx rfl (hb hby d20_30) rfl) ?_
  show ∃ t o, Steps p.tables e below (T14.setTop (mkF m 32 #[.val (.ref a1), .val (.ref sb), .val .null, .val (.ref vb), .val (.int cn)] [(.int cn), (.int (0 : Int32)), (.ref vb), (.ref a1)])) t ∧ _
  have F15 : Arv Z h14 vb kv .byte (16 : Int32) us (.int (0 : Int32)) := (Arv.other P8 W14 ha2)
  have F16 : Old Z n0 h14 := (Old.wr OLD W14 ga)
  have zl17 : n0 ≤ h14.size := by omega
  obtain ⟨_, _, ⟨T18, L18, k18, n18⟩, -, X18, ⟨Lc18, hQ18, l18, y18, z18⟩, st18⟩ := Jvm.LawKit.callS X14 hx (y := (⟨"java/util/Arrays", "copyOfRange", "([BII)[B"⟩ : MethodName)) hown (mvT hZ (hw _ (List.mem_of_getElem? (i := 146) rfl))) (mvT hZ (hw _ (List.mem_of_getElem? (i := 147) rfl))) (mvT hZ (hw _ (List.mem_of_getElem? (i := 148) rfl))) (mvT hZ (hw _ (List.mem_of_getElem? (i := 149) rfl))) (by decide) (backOf (W := 1) (rmCr l Z a0 hw [] vb kv us cn h14 n0 zl17 F15 F16 f2 hbn) hZ (hw _ (List.mem_of_getElem? (i := 149) rfl)) (hw _ (List.mem_of_getElem? (i := 148) rfl)) (by decide) (by decide)) (g := (mkF m 32 #[.val (.ref a1), .val (.ref sb), .val .null, .val (.ref vb), .val (.int cn)] [(.int cn), (.int (0 : Int32)), (.ref vb), (.ref a1)])) rfl (by rw [hml]; rfl) (argsL := [(.ref vb), (.int (0 : Int32)), (.int cn)]) (rest := [(.ref a1)]) (lenOf pd__28_5bBII_29_5bB rfl) rfl (by show 2 * 0 + _ ≤ _; exact Nat.le_of_eq rfl) (hb hby d20_32) (fun _ _ => ⟨rfl, e14, (by decide : 0 + 1 ≤ _), (by decide : 0 + 15 ≤ _)⟩)
  dsimp only [Pt.U, Pt.locs, Pt.cells, Pt.slots] at X18 l18 y18 z18 st18 hQ18
  rw [l18, y18, z18] at X18
  obtain ⟨nb_18, kn_18, rfl, Nq18, Kp18, G18_0, H18_0⟩ := hQ18
  have N18 := Fr.app N14 Nq18
  refine own_go st18 ?_
  have le_18 : h14.size ≤ T18.heap.size := Kp18.1
  have K18 : Keep h0 T18.heap [a1] := Keep.trans K14 Kp18 all0
  have lt_nb_18 : nb_18 < T18.heap.size := (G18_0).lt
  have F19 : Exa Z T18.heap a1 "java/lang/String" := (Exa.keep (Exa.wr W14 P1) Kp18)
  have F20 : Fld Z T18.heap a1 "java/lang/String" "value" "[B" .null := (Fld.keep (Fld.other W14 P2 (Or.inr (slot_ne (a0 := a0) (Or.inr (hw _ (List.mem_of_getElem? (i := 20) rfl))) (Or.inr (hw _ (List.mem_of_getElem? (i := 21) rfl))) (by decide) (t := (.array .byte)) (t' := .byte) (by decide) (by decide)))) Kp18 nin0)
  obtain ⟨T21, h21, X21, e21, W21, st21⟩ := putF X18 hx hZ hown (host := "") (Or.inl (hw _ (List.mem_of_getElem? (i := 24) rfl))) Via.refl rfl F20 F19 (Or.inr ⟨(hw _ (List.mem_of_getElem? (i := 20) rfl)), rfl, hnm⟩) (hw _ (List.mem_of_getElem? (i := 5) rfl)) (ty := (.array .byte)) (by decide) rfl rfl (g := (mkF m 35 #[.val (.ref a1), .val (.ref sb), .val .null, .val (.ref vb), .val (.int cn)] [(.ref nb_18), (.ref a1)])) rfl rfl (hb hby d20_35)
  refine own_go st21 ?_
  have le_21 : T18.heap.size ≤ h21.size := Nat.le_of_eq W21.size.symm
  have K21 : Keep h0 h21 [a1] := Keep.wr K18 W21 (Or.inl (List.mem_of_getElem? (i := 0) rfl))
  have N21 := Fr.snoc X21 N18 ga
  have Fw21 := Fld.same W21 F20
  refine own_go (fun _ => XS.goto X21.here hx rfl (pc0 := 38) (pc' := 97) rfl (hb hby d20_38) (by decide) (by decide)) ?_
  show ∃ t o, Steps p.tables e below (T21.setTop (mkF m 97 #[.val (.ref a1), .val (.ref sb), .val .null, .val (.ref vb), .val (.int cn)] [])) t ∧ _
  have F22 : Exa Z h21 a1 "java/lang/String" := (Exa.wr W21 F19)
  have F23 : Fld Z h21 a1 "java/lang/String" "coder" "B" (.int (0 : Int32)) := (Fld.other W21 (Fld.keep Fcz Kp18 nin0) (Or.inr (slot_ne (a0 := a0) (Or.inr (hw _ (List.mem_of_getElem? (i := 21) rfl))) (Or.inr (hw _ (List.mem_of_getElem? (i := 20) rfl))) (by decide) (t := .byte) (t' := (.array .byte)) (by decide) (by decide))))
  have ne24 : nb_18 ≠ a1 := own_ne (by omega)
  have F25 : Arv Z h21 nb_18 kn_18 .byte cn us (.int (0 : Int32)) := (Arv.other G18_0 W21 ne24)
  obtain ⟨fs, hr, hrun, hended, hW, hsame⟩ := X21.leave (v := none) (fun _ => rfl)
  refine ⟨_, _, ?_, hrun, hended, _, _, rfl, ?_, ⟨_, rfl⟩, hW, hsame.mono (by decide) (by decide)⟩
  · exact X21.returnOut hx Bd.returns (hb hby d20_97) hr
  · show Q_rmST2 Z _ _ _ _ _ _ _ h0 n0 _ T21.heap _
    rw [e21]
    exact ⟨nb_18, kn_18, rfl, N21, K21, F22, Fw21, F23, F25⟩
theorem ef_rmST1 (m : MethodId) (x0 : Nat) (x1 : Nat) : entryFrame m #[(.ref x0), (.ref x1)] 2 = mkF m 0 #[.val (.ref x0), .val (.ref x1)] [] := by first | (simp [entryFrame, mkF, argsToLocals, Value.category]; done) | rfl
theorem d19_0 : decode jdk_42_method_53_code 0 = .ok (.aload_n 0, 1) := by decide +kernel
theorem d19_1 : decode jdk_42_method_53_code 1 = .ok (.aload_n 1, 1) := by decide +kernel
theorem d19_2 : decode jdk_42_method_53_code 2 = .ok (.aconst_null, 1) := by decide +kernel
theorem d19_3 : decode jdk_42_method_53_code 3 = .ok (.invokespecial 489, 3) := by decide +kernel
theorem pd_h0c2c8006 : parseMethodDescriptor "(Ljava/lang/AbstractStringBuilder;Ljava/lang/Void;)V" = some ⟨[(.object "java/lang/AbstractStringBuilder"), (.object "java/lang/Void")], none⟩ := by decide +kernel
theorem d19_6 : decode jdk_42_method_53_code 6 = .ok (.return_, 1) := by decide +kernel
def Q_rmST1 (Z : State) (a1 : Nat) (sb : Nat) (vb : Nat) (kv : ClassId) (us : List Value) (cn : Int32) (zc : Int32) (h0 : Heap) (n0 : Nat) (v : Option Value) (h : Heap) (L : List Loc) : Prop := ∃ (tb : Nat), ∃ (kb : ClassId), v = none ∧ Fr n0 L ∧ Keep h0 h [a1] ∧ Exa Z h a1 "java/lang/String" ∧ Fld Z h a1 "java/lang/String" "value" "[B" (.ref tb) ∧ Fld Z h a1 "java/lang/String" "coder" "B" (.int (0 : Int32)) ∧ Arv Z h tb kb .byte cn us (.int (0 : Int32))
set_option maxRecDepth 65536 in
set_option maxHeartbeats 40000000 in
theorem rmST1 (l : Launch) (Z : State) (a0 : Array Value) (hw : ∀ d ∈ tables_1, d.before a0 Z = true) (ws : List Jvm.Cond) (a1 : Nat) (sb : Nat) (vb : Nat) (kv : ClassId) (us : List Value) (cn : Int32) (zc : Int32) (h0 : Heap) (n0 : Nat) (Z0 : n0 ≤ h0.size) (P1 : Exa Z h0 a1 "java/lang/String") (P2 : Fld Z h0 a1 "java/lang/String" "value" "[B" .null) (P3 : Fld Z h0 a1 "java/lang/String" "coder" "B" (.int (0 : Int32))) (P4 : Exa Z h0 sb "java/lang/StringBuilder") (P5 : Fld Z h0 sb "java/lang/AbstractStringBuilder" "value" "[B" (.ref vb)) (P6 : Fld Z h0 sb "java/lang/AbstractStringBuilder" "coder" "B" (.int (0 : Int32))) (P7 : Fld Z h0 sb "java/lang/AbstractStringBuilder" "count" "I" (.int cn)) (P8 : Arv Z h0 vb kv .byte (16 : Int32) us (.int (0 : Int32))) (OLD : Old Z n0 h0) (P9 : Sta Z Z.heap "java/lang/String" "COMPACT_STRINGS" "Z" (.int zc)) (hzc : ¬ (zc = (0 : Int32))) (f2 : own_fit us cn) (hbn : us.length ≤ 15) (ga : n0 ≤ a1) (ha2 : vb ≠ a1) :
    MetFree l (⟨"java/lang/String", "<init>", "(Ljava/lang/StringBuilder;)V"⟩ : MethodName) (head1 (Jvm.Cond.code (⟨"java/lang/String", "<init>", "(Ljava/lang/StringBuilder;)V"⟩ : MethodName) jdk_42_method_53_code 2 none :: ws) ({ frames := 4, cells := 1, slots := 15, locals := 65 } : Room)) (fun a U => a = #[(.ref a1), (.ref sb)] ∧ Z.Warmed39 U.vm ∧ U.heap = h0) (fun _ _ _ _ _ => True) (fun _ U o U' => ∃ v L, o = .returned v ∧ Q_rmST1 Z a1 sb vb kv us cn zc h0 n0 v U'.heap L ∧ FrameEnd U o U' L ({ frames := 4, cells := 1, slots := 15, locals := 65 } : Room).cells ({ frames := 4, cells := 1, slots := 15, locals := 65 } : Room).slots) := by
  refine MetFree.of_bodySF (plainFor_of_name pn_java_lang_String) hisR ?_
  intro p e s m args below meth c s₁ Bd hml0 hP hK
  obtain ⟨rfl, hZ, hh⟩ := hP
  have hx := Bd.exec
  have hby := Bd.bytes
  have hml : c.maxLocals = 2 := hml0
  have hown : s.vm.findClass "java/lang/String" = some m.cls := findClass_of_methodNamed Bd.named
  have hnm := (name_of_methodNamed Bd.named Bd.method).1
  have X0 : Stand p l e ({ frames := 4, cells := 1, slots := 15, locals := 65 } : Room) s m #[(.ref a1), (.ref sb)] below meth c s₁ [] 0 0 := Stand.of_body Bd
  have e0 : s₁.heap = h0 := by rw [← hh, Bd.state]; rfl
  have N0 := Fr.nil n0
  have pre0 : ∀ t, Steps p.tables e below (s₁.setTop (mkF m 0 #[.val (.ref a1), .val (.ref sb)] [])) t → Steps p.tables e below (s₁.setTop (entryFrame m #[(.ref a1), (.ref sb)] 2)) t := fun t k => castTop (ef_rmST1 m a1 sb) k
  have oz := OLD.1
  have lt_a1 : a1 < h0.size := P1.lt
  have lt_sb : sb < h0.size := P4.lt
  have lt_vb : vb < h0.size := P8.lt
  refine own_go (B := s₁.setTop (mkF m 0 #[.val (.ref a1), .val (.ref sb)] [])) pre0 ?_
  show ∃ t o, Steps p.tables e below (s₁.setTop (mkF m 0 #[.val (.ref a1), .val (.ref sb)] [])) t ∧ _
  refine own_go (fun _ => XS.aloadN X0.here hx rfl (hb hby d19_0) rfl rfl) ?_
  refine own_go (fun _ => XS.aloadN X0.here hx rfl (hb hby d19_1) rfl rfl) ?_
  refine own_go (fun _ => XS.aconstNull X0.here hx rfl (hb hby d19_2)) ?_
  show ∃ t o, Steps p.tables e below (s₁.setTop (mkF m 3 #[.val (.ref a1), .val (.ref sb)] [.null, (.ref sb), (.ref a1)])) t ∧ _
  obtain ⟨_, _, ⟨T10, L10, k10, n10⟩, -, X10, ⟨Lc10, hQ10, l10, y10, z10⟩, st10⟩ := X0.specialBack hx (y := (⟨"java/lang/String", "<init>", "(Ljava/lang/AbstractStringBuilder;Ljava/lang/Void;)V"⟩ : MethodName)) rfl hown (mvT hZ (hw _ (List.mem_of_getElem? (i := 125) rfl))) (mvT hZ (hw _ (List.mem_of_getElem? (i := 126) rfl))) (mvT hZ (hw _ (List.mem_of_getElem? (i := 127) rfl))) (by decide) (backOf (W := 0) (rmST2 l Z a0 hw [] a1 sb vb kv us cn zc h0 n0 Z0 P1 P2 P3 P4 P5 P6 P7 P8 OLD P9 hzc f2 hbn ga ha2) hZ (hw _ (List.mem_of_getElem? (i := 127) rfl)) (hw _ (List.mem_of_getElem? (i := 6) rfl)) (by decide) (by decide)) (g := (mkF m 3 #[.val (.ref a1), .val (.ref sb)] [.null, (.ref sb), (.ref a1)])) rfl (by rw [hml]; rfl) (Steps.refl _) (a := a1) (argsL := [(.ref sb), .null]) (rest := []) (lenOf pd_h0c2c8006 rfl) rfl (by show 2 * 0 + _ ≤ _; exact Nat.le_of_eq rfl) (hb hby d19_3) (fun _ _ => ⟨rfl, e0, (by decide : 0 + 1 ≤ _), (by decide : 0 + 15 ≤ _)⟩)
  dsimp only [Pt.U, Pt.locs, Pt.cells, Pt.slots] at X10 l10 y10 z10 st10 hQ10
  rw [l10, y10, z10] at X10
  obtain ⟨tb_10, kb_10, rfl, Nq10, Kp10, G10_0, G10_1, G10_2, G10_3⟩ := hQ10
  have N10 := Fr.app N0 Nq10
  refine own_goT st10 ?_
  have le_10 : h0.size ≤ T10.heap.size := Kp10.1
  have K10 : Keep h0 T10.heap [a1] := Keep.trans (Keep.refl h0 [a1]) Kp10 (allS (Or.inl (List.mem_of_getElem? (i := 0) rfl)) all0)
  have lt_tb_10 : tb_10 < T10.heap.size := (G10_3).lt
  show ∃ t o, Steps p.tables e below (T10.setTop (mkF m 6 #[.val (.ref a1), .val (.ref sb)] [])) t ∧ _
  obtain ⟨fs, hr, hrun, hended, hW, hsame⟩ := X10.leave (v := none) (fun _ => rfl)
  refine ⟨_, _, ?_, hrun, hended, _, _, rfl, ?_, ⟨_, rfl⟩, hW, hsame.mono (by decide) (by decide)⟩
  · exact X10.returnOut hx Bd.returns (hb hby d19_6) hr
  · show Q_rmST1 Z _ _ _ _ _ _ _ h0 n0 _ T10.heap _
    exact ⟨tb_10, kb_10, rfl, N10, K10, G10_0, G10_1, G10_2, G10_3⟩
theorem ef_rmTs (m : MethodId) (x0 : Nat) : entryFrame m #[(.ref x0)] 1 = mkF m 0 #[.val (.ref x0)] [] := by first | (simp [entryFrame, mkF, argsToLocals, Value.category]; done) | rfl
theorem d18_0 : decode jdk_67_method_42_code 0 = .ok (.new 18, 3) := by decide +kernel
theorem d18_3 : decode jdk_67_method_42_code 3 = .ok (.dup, 1) := by decide +kernel
theorem d18_4 : decode jdk_67_method_42_code 4 = .ok (.aload_n 0, 1) := by decide +kernel
theorem d18_5 : decode jdk_67_method_42_code 5 = .ok (.invokespecial 137, 3) := by decide +kernel
theorem pd__28Ljava_2flang_2fStringBuilder_3b_29V : parseMethodDescriptor "(Ljava/lang/StringBuilder;)V" = some ⟨[(.object "java/lang/StringBuilder")], none⟩ := by decide +kernel
theorem d18_8 : decode jdk_67_method_42_code 8 = .ok (.areturn, 1) := by decide +kernel
def Q_rmTs (Z : State) (sb : Nat) (vb : Nat) (kv : ClassId) (us : List Value) (cn : Int32) (zc : Int32) (h0 : Heap) (n0 : Nat) (v : Option Value) (h : Heap) (L : List Loc) : Prop := ∃ (b : Nat), ∃ (tb : Nat), ∃ (kb : ClassId), v = some (.ref b) ∧ Fr n0 L ∧ Keep h0 h [] ∧ Exa Z h b "java/lang/String" ∧ Fld Z h b "java/lang/String" "value" "[B" (.ref tb) ∧ Fld Z h b "java/lang/String" "coder" "B" (.int (0 : Int32)) ∧ Arv Z h tb kb .byte cn us (.int (0 : Int32)) ∧ (h0.size ≤ b)
set_option maxRecDepth 65536 in
set_option maxHeartbeats 40000000 in
theorem rmTs (l : Launch) (Z : State) (a0 : Array Value) (hw : ∀ d ∈ tables_1, d.before a0 Z = true) (ws : List Jvm.Cond) (sb : Nat) (vb : Nat) (kv : ClassId) (us : List Value) (cn : Int32) (zc : Int32) (h0 : Heap) (n0 : Nat) (Z0 : n0 ≤ h0.size) (P1 : Exa Z h0 sb "java/lang/StringBuilder") (P2 : Fld Z h0 sb "java/lang/AbstractStringBuilder" "value" "[B" (.ref vb)) (P3 : Fld Z h0 sb "java/lang/AbstractStringBuilder" "coder" "B" (.int (0 : Int32))) (P4 : Fld Z h0 sb "java/lang/AbstractStringBuilder" "count" "I" (.int cn)) (P5 : Arv Z h0 vb kv .byte (16 : Int32) us (.int (0 : Int32))) (OLD : Old Z n0 h0) (P6 : Sta Z Z.heap "java/lang/String" "COMPACT_STRINGS" "Z" (.int zc)) (hzc : ¬ (zc = (0 : Int32))) (f2 : own_fit us cn) (hbn : us.length ≤ 15) :
    MetFree l (⟨"java/lang/StringBuilder", "toString", "()Ljava/lang/String;"⟩ : MethodName) (head1 (Jvm.Cond.code (⟨"java/lang/StringBuilder", "toString", "()Ljava/lang/String;"⟩ : MethodName) jdk_67_method_42_code 1 (some (.object "java/lang/String")) :: ws) ({ frames := 5, cells := 2, slots := 19, locals := 79 } : Room)) (fun a U => a = #[(.ref sb)] ∧ Z.Warmed39 U.vm ∧ U.heap = h0) (fun _ _ _ _ _ => True) (fun _ U o U' => ∃ v L, o = .returned v ∧ Q_rmTs Z sb vb kv us cn zc h0 n0 v U'.heap L ∧ FrameEnd U o U' L ({ frames := 5, cells := 2, slots := 19, locals := 79 } : Room).cells ({ frames := 5, cells := 2, slots := 19, locals := 79 } : Room).slots) := by
  refine MetFree.of_bodySF (plainFor_of_name pn_java_lang_StringBuilder) hisR ?_
  intro p e s m args below meth c s₁ Bd hml0 hP hK
  obtain ⟨rfl, hZ, hh⟩ := hP
  have hx := Bd.exec
  have hby := Bd.bytes
  have hml : c.maxLocals = 1 := hml0
  have hown : s.vm.findClass "java/lang/StringBuilder" = some m.cls := findClass_of_methodNamed Bd.named
  have hnm := (name_of_methodNamed Bd.named Bd.method).1
  have X0 : Stand p l e ({ frames := 5, cells := 2, slots := 19, locals := 79 } : Room) s m #[(.ref sb)] below meth c s₁ [] 0 0 := Stand.of_body Bd
  have e0 : s₁.heap = h0 := by rw [← hh, Bd.state]; rfl
  have N0 := Fr.nil n0
  have pre0 : ∀ t, Steps p.tables e below (s₁.setTop (mkF m 0 #[.val (.ref sb)] [])) t → Steps p.tables e below (s₁.setTop (entryFrame m #[(.ref sb)] 1)) t := fun t k => castTop (ef_rmTs m sb) k
  have oz := OLD.1
  have lt_sb : sb < h0.size := P1.lt
  have lt_vb : vb < h0.size := P5.lt
  refine own_go (B := s₁.setTop (mkF m 0 #[.val (.ref sb)] [])) pre0 ?_
  show ∃ t o, Steps p.tables e below (s₁.setTop (mkF m 0 #[.val (.ref sb)] [])) t ∧ _
  obtain ⟨T7, h7, X7, e7, E7, A7, D7, -, st7⟩ := newO X0 hx hZ hown (hw _ (List.mem_of_getElem? (i := 121) rfl)) (hw _ (List.mem_of_getElem? (i := 5) rfl)) (hw _ (List.mem_of_getElem? (i := 6) rfl)) e0 (g := (mkF m 0 #[.val (.ref sb)] [])) rfl (hb hby d18_0) (by decide) (by decide)
  obtain ⟨b7, g7⟩ : ∃ z, z = h0.size := ⟨_, rfl⟩
  rw [← g7] at A7 D7 st7
  refine own_go st7 ?_
  have le_7 : h0.size ≤ h7.size := E7.1
  have lt_b7 : b7 < h7.size := A7.lt
  have F_value_b7 : Fld Z h7 b7 "java/lang/String" "value" "[B" .null := D7 (Or.inr (hw _ (List.mem_of_getElem? (i := 20) rfl))) (ty := (.array .byte)) (by decide)
  have F_coder_b7 : Fld Z h7 b7 "java/lang/String" "coder" "B" (.int (0 : Int32)) := D7 (Or.inr (hw _ (List.mem_of_getElem? (i := 21) rfl))) (ty := .byte) (by decide)
  have K7 : Keep h0 h7 [] := Keep.ext (Keep.refl h0 []) E7
  refine own_go (fun _ => XS.dup X7.here hx rfl (hb hby d18_3) rfl rfl) ?_
  refine own_go (fun _ => XS.aloadN X7.here hx rfl (hb hby d18_4) rfl rfl) ?_
  show ∃ t o, Steps p.tables e below (T7.setTop (mkF m 5 #[.val (.ref sb)] [(.ref sb), (.ref b7), (.ref b7)])) t ∧ _
  have F8 : Exa Z h7 sb "java/lang/StringBuilder" := (Exa.ext E7 P1)
  have F9 : Fld Z h7 sb "java/lang/AbstractStringBuilder" "value" "[B" (.ref vb) := (Fld.ext E7 P2)
  have F10 : Fld Z h7 sb "java/lang/AbstractStringBuilder" "coder" "B" (.int (0 : Int32)) := (Fld.ext E7 P3)
  have F11 : Fld Z h7 sb "java/lang/AbstractStringBuilder" "count" "I" (.int cn) := (Fld.ext E7 P4)
  have F12 : Arv Z h7 vb kv .byte (16 : Int32) us (.int (0 : Int32)) := (P5.ext E7)
  have F13 : Old Z n0 h7 := (OLD.ext E7)
  have ge14 : n0 ≤ b7 := by omega
  have ne15 : vb ≠ b7 := own_ne (by omega)
  have zl16 : n0 ≤ h7.size := by omega
  obtain ⟨_, _, ⟨T17, L17, k17, n17⟩, -, X17, ⟨Lc17, hQ17, l17, y17, z17⟩, st17⟩ := X7.specialBack hx (y := (⟨"java/lang/String", "<init>", "(Ljava/lang/StringBuilder;)V"⟩ : MethodName)) rfl hown (mvT hZ (hw _ (List.mem_of_getElem? (i := 122) rfl))) (mvT hZ (hw _ (List.mem_of_getElem? (i := 123) rfl))) (mvT hZ (hw _ (List.mem_of_getElem? (i := 124) rfl))) (by decide) (backOf (W := 1) (rmST1 l Z a0 hw [] b7 sb vb kv us cn zc h7 n0 zl16 A7 F_value_b7 F_coder_b7 F8 F9 F10 F11 F12 F13 P6 hzc f2 hbn ge14 ne15) hZ (hw _ (List.mem_of_getElem? (i := 124) rfl)) (hw _ (List.mem_of_getElem? (i := 6) rfl)) (by decide) (by decide)) (g := (mkF m 5 #[.val (.ref sb)] [(.ref sb), (.ref b7), (.ref b7)])) rfl (by rw [hml]; rfl) (Steps.refl _) (a := b7) (argsL := [(.ref sb)]) (rest := [(.ref b7)]) (lenOf pd__28Ljava_2flang_2fStringBuilder_3b_29V rfl) rfl (by show 2 * 0 + _ ≤ _; exact Nat.le_of_eq rfl) (hb hby d18_5) (fun _ _ => ⟨rfl, e7, (by decide : 1 + 1 ≤ _), (by decide : 4 + 15 ≤ _)⟩)
  dsimp only [Pt.U, Pt.locs, Pt.cells, Pt.slots] at X17 l17 y17 z17 st17 hQ17
  rw [l17, y17, z17] at X17
  obtain ⟨tb_17, kb_17, rfl, Nq17, Kp17, G17_0, G17_1, G17_2, G17_3⟩ := hQ17
  have N17 := Fr.app N0 Nq17
  refine own_goT st17 ?_
  have le_17 : h7.size ≤ T17.heap.size := Kp17.1
  have sz18 : h0.size ≤ b7 := by omega
  have K17 : Keep h0 T17.heap [] := Keep.trans K7 Kp17 (allS (Or.inr sz18) all0)
  have lt_tb_17 : tb_17 < T17.heap.size := (G17_3).lt
  show ∃ t o, Steps p.tables e below (T17.setTop (mkF m 8 #[.val (.ref sb)] [(.ref b7)])) t ∧ _
  obtain ⟨fs, hr, hrun, hended, hW, hsame⟩ := X17.leave (v := some (.ref b7)) (fun h => by rw [Bd.returns] at h; cases h)
  refine ⟨_, _, ?_, hrun, hended, _, _, rfl, ?_, ⟨_, rfl⟩, hW, hsame.mono (by decide) (by decide)⟩
  · jvm_step X17.here [X17.here.top, hx, (hb hby d18_8), X17.method', Bd.returns, Value.isRef, FieldType.isReference]
    first | (intro acts; rw [hr _ acts rfl rfl rfl]) | rw [hr _ _ rfl rfl rfl]
    exact Steps.refl _
  · show Q_rmTs Z _ _ _ _ _ _ h0 n0 _ T17.heap _
    exact ⟨b7, tb_17, kb_17, rfl, N17, K17, G17_0, G17_1, G17_2, G17_3, (by omega)⟩
theorem ef_rmLchG (m : MethodId) (x0 : Nat) (x1 : Int32) : entryFrame m #[(.ref x0), (.int x1)] 2 = mkF m 0 #[.val (.ref x0), .val (.int x1)] [] := by first | (simp [entryFrame, mkF, argsToLocals, Value.category]; done) | rfl
theorem d32_0 : decode jdk_43_method_2_code 0 = .ok (.iload_n 1, 1) := by decide +kernel
theorem d32_1 : decode jdk_43_method_2_code 1 = .ok (.aload_n 0, 1) := by decide +kernel
theorem d32_2 : decode jdk_43_method_2_code 2 = .ok (.arraylength, 1) := by decide +kernel
theorem d32_3 : decode jdk_43_method_2_code 3 = .ok (.invokestatic 9, 3) := by decide +kernel
theorem d32_6 : decode jdk_43_method_2_code 6 = .ok (.aload_n 0, 1) := by decide +kernel
theorem d32_7 : decode jdk_43_method_2_code 7 = .ok (.iload_n 1, 1) := by decide +kernel
theorem d32_8 : decode jdk_43_method_2_code 8 = .ok (.baload, 1) := by decide +kernel
theorem d32_9 : decode jdk_43_method_2_code 9 = .ok (.sipush 255, 3) := by decide +kernel
theorem d32_12 : decode jdk_43_method_2_code 12 = .ok (.iand, 1) := by decide +kernel
theorem d32_13 : decode jdk_43_method_2_code 13 = .ok (.i2c, 1) := by decide +kernel
theorem d32_14 : decode jdk_43_method_2_code 14 = .ok (.ireturn, 1) := by decide +kernel
theorem pn_java_lang_StringLatin1 : plainName "java/lang/StringLatin1" = true := by first | (simp [plainName, overriddenIn]; done) | decide +kernel
def Q_rmLchG (Z : State) (tb : Nat) (kb : ClassId) (nn : Int32) (vs : List Value) (xi : Int32) (cc : Int32) (gv : Value) (h0 : Heap) (n0 : Nat) (v : Option Value) (h : Heap) (L : List Loc) : Prop := v = some (.int cc) ∧ Fr n0 L ∧ h = h0
set_option maxRecDepth 65536 in
set_option maxHeartbeats 40000000 in
theorem rmLchG (l : Launch) (Z : State) (a0 : Array Value) (hw : ∀ d ∈ tables_1, d.before a0 Z = true) (ws : List Jvm.Cond) (tb : Nat) (kb : ClassId) (nn : Int32) (vs : List Value) (xi : Int32) (cc : Int32) (gv : Value) (h0 : Heap) (n0 : Nat) (Z0 : n0 ≤ h0.size) (P1 : Arv Z h0 tb kb .byte nn vs (.int (0 : Int32))) (OLD : Old Z n0 h0) (P2 : Sta Z Z.heap "jdk/internal/util/Preconditions" "SIOOBE_FORMATTER" "Ljava/util/function/BiFunction;" gv) (q0 : ¬ (xi < (0 : Int32))) (q1 : xi < nn) (hat : vs.getD xi.toNatClampNeg (.int (0 : Int32)) = (.int (cc.toInt8.toInt32))) (hrg : own_rg cc) (hgv : gv.isRef = true) :
    MetFree l (⟨"java/lang/StringLatin1", "charAt", "([BI)C"⟩ : MethodName) (head1 (Jvm.Cond.code (⟨"java/lang/StringLatin1", "charAt", "([BI)C"⟩ : MethodName) jdk_43_method_2_code 2 (some .char) :: ws) ({ frames := 2, cells := 0, slots := 0, locals := 27 } : Room)) (fun a U => a = #[(.ref tb), (.int xi)] ∧ Z.Warmed39 U.vm ∧ U.heap = h0) (fun _ _ _ _ _ => True) (fun _ U o U' => ∃ v L, o = .returned v ∧ Q_rmLchG Z tb kb nn vs xi cc gv h0 n0 v U'.heap L ∧ FrameEnd U o U' L ({ frames := 2, cells := 0, slots := 0, locals := 27 } : Room).cells ({ frames := 2, cells := 0, slots := 0, locals := 27 } : Room).slots) := by
  refine MetFree.of_bodySF (plainFor_of_name pn_java_lang_StringLatin1) hisR ?_
  intro p e s m args below meth c s₁ Bd hml0 hP hK
  obtain ⟨rfl, hZ, hh⟩ := hP
  have hx := Bd.exec
  have hby := Bd.bytes
  have hml : c.maxLocals = 2 := hml0
  have hown : s.vm.findClass "java/lang/StringLatin1" = some m.cls := findClass_of_methodNamed Bd.named
  have hnm := (name_of_methodNamed Bd.named Bd.method).1
  have X0 : Stand p l e ({ frames := 2, cells := 0, slots := 0, locals := 27 } : Room) s m #[(.ref tb), (.int xi)] below meth c s₁ [] 0 0 := Stand.of_body Bd
  have e0 : s₁.heap = h0 := by rw [← hh, Bd.state]; rfl
  have N0 := Fr.nil n0
  have pre0 : ∀ t, Steps p.tables e below (s₁.setTop (mkF m 0 #[.val (.ref tb), .val (.int xi)] [])) t → Steps p.tables e below (s₁.setTop (entryFrame m #[(.ref tb), (.int xi)] 2)) t := fun t k => castTop (ef_rmLchG m tb xi) k
  have oz := OLD.1
  have lt_tb : tb < h0.size := P1.lt
  refine own_go (B := s₁.setTop (mkF m 0 #[.val (.ref tb), .val (.int xi)] [])) pre0 ?_
  show ∃ t o, Steps p.tables e below (s₁.setTop (mkF m 0 #[.val (.ref tb), .val (.int xi)] [])) t ∧ _
  refine own_go (fun _ => XS.iloadN X0.here hx rfl (hb hby d32_0) rfl) ?_
  refine own_go (fun _ => XS.aloadN X0.here hx rfl (hb hby d32_1) rfl rfl) ?_
  obtain ⟨cl3, Ar3, q3, S3, N3, H3, G3⟩ := id P1
  have ln3 : cl3.slots.size.toInt32 = nn := len_of S3 N3
  have al3 := X0.arraylength hx (by rw [e0]; exact Ar3.1) (State.isArrayOf_alike hZ.alike Ar3.2.1) (g := (mkF m 2 #[.val (.ref tb), .val (.int xi)] [(.ref tb), (.int xi)])) rfl rfl (hb hby d32_2)
  rw [ln3] at al3
  refine own_go al3 ?_
  show ∃ t o, Steps p.tables e below (s₁.setTop (mkF m 3 #[.val (.ref tb), .val (.int xi)] [(.int nn), (.int xi)])) t ∧ _
  obtain ⟨_, _, ⟨T4, L4, k4, n4⟩, -, X4, ⟨Lc4, hQ4, l4, y4, z4⟩, st4⟩ := Jvm.LawKit.callS X0 hx (y := (⟨"java/lang/String", "checkIndex", "(II)V"⟩ : MethodName)) hown (mvT hZ (hw _ (List.mem_of_getElem? (i := 179) rfl))) (mvT hZ (hw _ (List.mem_of_getElem? (i := 180) rfl))) (mvT hZ (hw _ (List.mem_of_getElem? (i := 6) rfl))) (mvT hZ (hw _ (List.mem_of_getElem? (i := 181) rfl))) (by decide) (backOf (W := 0) (rmCi l Z a0 hw [] xi nn gv h0 n0 Z0 OLD P2 hgv q0 q1) hZ (hw _ (List.mem_of_getElem? (i := 181) rfl)) (hw _ (List.mem_of_getElem? (i := 6) rfl)) (by decide) (by decide)) (g := (mkF m 3 #[.val (.ref tb), .val (.int xi)] [(.int nn), (.int xi)])) rfl (by rw [hml]; rfl) (argsL := [(.int xi), (.int nn)]) (rest := []) (lenOf pd__28II_29V rfl) rfl (by show 2 * 0 + _ ≤ _; exact Nat.le_of_eq rfl) (hb hby d32_3) (fun _ _ => ⟨rfl, e0, (by decide : 0 + 0 ≤ _), (by decide : 0 + 0 ≤ _)⟩)
  dsimp only [Pt.U, Pt.locs, Pt.cells, Pt.slots] at X4 l4 y4 z4 st4 hQ4
  rw [l4, y4, z4] at X4
  obtain ⟨rfl, Nq4, e4⟩ := hQ4
  have N4 := Fr.app N0 Nq4
  refine own_go st4 ?_
  refine own_go (fun _ => XS.aloadN X4.here hx rfl (hb hby d32_6) rfl rfl) ?_
  refine own_go (fun _ => XS.iloadN X4.here hx rfl (hb hby d32_7) rfl) ?_
  show ∃ t o, Steps p.tables e below (T4.setTop (mkF m 8 #[.val (.ref tb), .val (.int xi)] [(.int xi), (.ref tb)])) t ∧ _
  obtain ⟨cl5, Ar5, q5, S5, N5, H5, G5⟩ := id P1
  have hin5 : ¬ (xi < 0 ∨ cl5.slots.size ≤ (xi).toNatClampNeg) := inb_of S5 ⟨q0, q1⟩
  have hat5 : cl5.slots[(xi).toNatClampNeg]? = some (.int (cc.toInt8.toInt32)) := Has.at H5 hin5 hat
  refine own_go (fun _ => X4.baloadBytes hx (j := xi) (v := (.int (cc.toInt8.toInt32))) (by rw [e4]; exact Ar5.1) (State.isArrayOf_alike hZ.alike Ar5.2.1) Ar5.2.2 hin5 hat5 (g := (mkF m 8 #[.val (.ref tb), .val (.int xi)] [(.int xi), (.ref tb)])) rfl rfl (hb hby d32_8) _) ?_
  refine own_go (fun _ => XS.sipush X4.here hx rfl (hb hby d32_9)) ?_
  refine own_go (fun _ => XS.iand X4.here hx rfl (hb hby d32_12) rfl) ?_
  show ∃ t o, Steps p.tables e below (T4.setTop (mkF m 13 #[.val (.ref tb), .val (.int xi)] [(.int ((cc.toInt8.toInt32) &&& (255 : Int32)))])) t ∧ _
  refine own_go (fun _ => XS.i2c X4.here hx rfl (hb hby d32_13) rfl) ?_
  show ∃ t o, Steps p.tables e below (T4.setTop (mkF m 14 #[.val (.ref tb), .val (.int xi)] [(.int (((cc.toInt8.toInt32) &&& (255 : Int32)).toUInt32.toUInt16.toUInt32.toInt32))])) t ∧ _
  obtain ⟨fs, hr, hrun, hended, hW, hsame⟩ := X4.leave (v := some (.int (nar .char (((cc.toInt8.toInt32) &&& (255 : Int32)).toUInt32.toUInt16.toUInt32.toInt32)))) (fun h => by rw [Bd.returns] at h; cases h)
  refine ⟨_, _, ?_, hrun, hended, _, _, rfl, ?_, ⟨_, rfl⟩, hW, hsame.mono (by decide) (by decide)⟩
  · exact retN X4 hx (t := .char) Bd.returns (by simp) (hb hby d32_14) hr
  · show Q_rmLchG Z _ _ _ _ _ _ _ h0 n0 _ T4.heap _
    rw [e4]
    exact ⟨(congrArg (fun z => some (Value.int z)) (own_back hrg)), N4, rfl⟩
theorem ef_rmChG (m : MethodId) (x0 : Nat) (x1 : Int32) : entryFrame m #[(.ref x0), (.int x1)] 2 = mkF m 0 #[.val (.ref x0), .val (.int x1)] [] := by first | (simp [entryFrame, mkF, argsToLocals, Value.category]; done) | rfl
theorem d30_0 : decode jdk_42_method_56_code 0 = .ok (.aload_n 0, 1) := by decide +kernel
theorem d30_1 : decode jdk_42_method_56_code 1 = .ok (.invokevirtual 492, 3) := by decide +kernel
theorem d30_4 : decode jdk_42_method_56_code 4 = .ok (.ifCond .eq 12, 3) := by decide +kernel
theorem d30_7 : decode jdk_42_method_56_code 7 = .ok (.aload_n 0, 1) := by decide +kernel
theorem d30_8 : decode jdk_42_method_56_code 8 = .ok (.getfield 9, 3) := by decide +kernel
theorem d30_11 : decode jdk_42_method_56_code 11 = .ok (.iload_n 1, 1) := by decide +kernel
theorem d30_12 : decode jdk_42_method_56_code 12 = .ok (.invokestatic 495, 3) := by decide +kernel
theorem pd__28_5bBI_29C : parseMethodDescriptor "([BI)C" = some ⟨[(.array .byte), .int], some .char⟩ := by decide +kernel
theorem d30_15 : decode jdk_42_method_56_code 15 = .ok (.ireturn, 1) := by decide +kernel
def Q_rmChG (Z : State) (so : Nat) (tb : Nat) (kb : ClassId) (nn : Int32) (vs : List Value) (xi : Int32) (cc : Int32) (zc : Int32) (gv : Value) (h0 : Heap) (n0 : Nat) (v : Option Value) (h : Heap) (L : List Loc) : Prop := v = some (.int cc) ∧ Fr n0 L ∧ h = h0
set_option maxRecDepth 65536 in
set_option maxHeartbeats 40000000 in
theorem rmChG (l : Launch) (Z : State) (a0 : Array Value) (hw : ∀ d ∈ tables_1, d.before a0 Z = true) (ws : List Jvm.Cond) (so : Nat) (tb : Nat) (kb : ClassId) (nn : Int32) (vs : List Value) (xi : Int32) (cc : Int32) (zc : Int32) (gv : Value) (h0 : Heap) (n0 : Nat) (Z0 : n0 ≤ h0.size) (P1 : Exa Z h0 so "java/lang/String") (P2 : Fld Z h0 so "java/lang/String" "value" "[B" (.ref tb)) (P3 : Fld Z h0 so "java/lang/String" "coder" "B" (.int (0 : Int32))) (P4 : Arv Z h0 tb kb .byte nn vs (.int (0 : Int32))) (OLD : Old Z n0 h0) (P5 : Sta Z Z.heap "java/lang/String" "COMPACT_STRINGS" "Z" (.int zc)) (P6 : Sta Z Z.heap "jdk/internal/util/Preconditions" "SIOOBE_FORMATTER" "Ljava/util/function/BiFunction;" gv) (hzc : ¬ (zc = (0 : Int32))) (hgv : gv.isRef = true) (q0 : ¬ (xi < (0 : Int32))) (q1 : xi < nn) (hat : vs.getD xi.toNatClampNeg (.int (0 : Int32)) = (.int (cc.toInt8.toInt32))) (hrg : own_rg cc) :
    MetFree l (⟨"java/lang/String", "charAt", "(I)C"⟩ : MethodName) (head1 (Jvm.Cond.code (⟨"java/lang/String", "charAt", "(I)C"⟩ : MethodName) jdk_42_method_56_code 2 (some .char) :: ws) ({ frames := 3, cells := 0, slots := 0, locals := 40 } : Room)) (fun a U => a = #[(.ref so), (.int xi)] ∧ Z.Warmed39 U.vm ∧ U.heap = h0) (fun _ _ _ _ _ => True) (fun _ U o U' => ∃ v L, o = .returned v ∧ Q_rmChG Z so tb kb nn vs xi cc zc gv h0 n0 v U'.heap L ∧ FrameEnd U o U' L ({ frames := 3, cells := 0, slots := 0, locals := 40 } : Room).cells ({ frames := 3, cells := 0, slots := 0, locals := 40 } : Room).slots) := by
  refine MetFree.of_bodySF (plainFor_of_name pn_java_lang_String) hisR ?_
  intro p e s m args below meth c s₁ Bd hml0 hP hK
  obtain ⟨rfl, hZ, hh⟩ := hP
  have hx := Bd.exec
  have hby := Bd.bytes
  have hml : c.maxLocals = 2 := hml0
  have hown : s.vm.findClass "java/lang/String" = some m.cls := findClass_of_methodNamed Bd.named
  have hnm := (name_of_methodNamed Bd.named Bd.method).1
  have X0 : Stand p l e ({ frames := 3, cells := 0, slots := 0, locals := 40 } : Room) s m #[(.ref so), (.int xi)] below meth c s₁ [] 0 0 := Stand.of_body Bd
  have e0 : s₁.heap = h0 := by rw [← hh, Bd.state]; rfl
  have N0 := Fr.nil n0
  have pre0 : ∀ t, Steps p.tables e below (s₁.setTop (mkF m 0 #[.val (.ref so), .val (.int xi)] [])) t → Steps p.tables e below (s₁.setTop (entryFrame m #[(.ref so), (.int xi)] 2)) t := fun t k => castTop (ef_rmChG m so xi) k
  have oz := OLD.1
  have lt_so : so < h0.size := P1.lt
  have lt_tb : tb < h0.size := P4.lt
  refine own_go (B := s₁.setTop (mkF m 0 #[.val (.ref so), .val (.int xi)] [])) pre0 ?_
  show ∃ t o, Steps p.tables e below (s₁.setTop (mkF m 0 #[.val (.ref so), .val (.int xi)] [])) t ∧ _
  refine own_go (fun _ => XS.aloadN X0.here hx rfl (hb hby d30_0) rfl rfl) ?_
  show ∃ t o, Steps p.tables e below (s₁.setTop (mkF m 1 #[.val (.ref so), .val (.int xi)] [(.ref so)])) t ∧ _
  obtain ⟨cq7, kq7, q7a, q7b, q7c⟩ := isOf hZ e0 P1
  obtain ⟨_, _, ⟨T7, L7, k7, n7⟩, -, X7, ⟨Lc7, hQ7, l7, y7, z7⟩, st7⟩ := X0.virtualBack hx (y := (⟨"java/lang/String", "isLatin1", "()Z"⟩ : MethodName)) (z := (⟨"java/lang/String", "isLatin1", "()Z"⟩ : MethodName)) hown (mvT hZ (hw _ (List.mem_of_getElem? (i := 170) rfl))) (mvT hZ (hw _ (List.mem_of_getElem? (i := 171) rfl))) (notFace_of_selects (args := #[]) (mvT hZ (hw _ (List.mem_of_getElem? (i := 173) rfl)))) (mvT hZ (hw _ (List.mem_of_getElem? (i := 173) rfl))) (mvT hZ (hw _ (List.mem_of_getElem? (i := 172) rfl))) (by decide) (backOf (W := 0) (rmLat l Z a0 hw [] so zc h0 n0 Z0 P3 OLD P5 hzc) hZ (hw _ (List.mem_of_getElem? (i := 174) rfl)) (hw _ (List.mem_of_getElem? (i := 6) rfl)) (by decide) (by decide)) q7a q7c (g := (mkF m 1 #[.val (.ref so), .val (.int xi)] [(.ref so)])) rfl (by rw [hml]; rfl) (Steps.refl _) (argsL := []) (rest := []) (lenOf pd__28_29Z rfl) rfl (by show 2 * 0 + _ ≤ _; exact Nat.le_of_eq rfl) (hb hby d30_1) (fun _ _ => ⟨rfl, e0, (by decide : 0 + 0 ≤ _), (by decide : 0 + 0 ≤ _)⟩)
  dsimp only [Pt.U, Pt.locs, Pt.cells, Pt.slots] at X7 l7 y7 z7 st7 hQ7
  rw [l7, y7, z7] at X7
  obtain ⟨rfl, Nq7, e7⟩ := hQ7
  have N7 := Fr.app N0 Nq7
  refine own_goT st7 ?_
  show ∃ t o, Steps p.tables e below (T7.setTop (mkF m 4 #[.val (.ref so), .val (.int xi)] [(.int (1 : Int32))])) t ∧ _
  refine own_go (fun _ => XS.ifNo X7.here hx rfl (hb hby d30_4) rfl ((if0 _ _).trans (feq (by decide : ¬ ((1 : Int32) = (0 : Int32)))).1)) ?_
  refine own_go (fun _ => XS.aloadN X7.here hx rfl (hb hby d30_7) rfl rfl) ?_
  obtain ⟨T8, X8, e8, st8⟩ := getF X7 hx hZ hown (host := "") (Or.inl (hw _ (List.mem_of_getElem? (i := 24) rfl))) Via.refl e7 P2 (g := (mkF m 8 #[.val (.ref so), .val (.int xi)] [(.ref so)])) rfl rfl (hb hby d30_8)
  refine own_go st8 ?_
  show ∃ t o, Steps p.tables e below (T8.setTop (mkF m 11 #[.val (.ref so), .val (.int xi)] [(.ref tb)])) t ∧ _
  refine own_go (fun _ => XS.iloadN X8.here hx rfl (hb hby d30_11) rfl) ?_
  show ∃ t o, Steps p.tables e below (T8.setTop (mkF m 12 #[.val (.ref so), .val (.int xi)] [(.int xi), (.ref tb)])) t ∧ _
  obtain ⟨_, _, ⟨T9, L9, k9, n9⟩, -, X9, ⟨Lc9, hQ9, l9, y9, z9⟩, st9⟩ := Jvm.LawKit.callS X8 hx (y := (⟨"java/lang/StringLatin1", "charAt", "([BI)C"⟩ : MethodName)) hown (mvT hZ (hw _ (List.mem_of_getElem? (i := 175) rfl))) (mvT hZ (hw _ (List.mem_of_getElem? (i := 176) rfl))) (mvT hZ (hw _ (List.mem_of_getElem? (i := 177) rfl))) (mvT hZ (hw _ (List.mem_of_getElem? (i := 178) rfl))) (by decide) (backOf (W := 0) (rmLchG l Z a0 hw [] tb kb nn vs xi cc gv h0 n0 Z0 P4 OLD P6 q0 q1 hat hrg hgv) hZ (hw _ (List.mem_of_getElem? (i := 178) rfl)) (hw _ (List.mem_of_getElem? (i := 177) rfl)) (by decide) (by decide)) (g := (mkF m 12 #[.val (.ref so), .val (.int xi)] [(.int xi), (.ref tb)])) rfl (by rw [hml]; rfl) (argsL := [(.ref tb), (.int xi)]) (rest := []) (lenOf pd__28_5bBI_29C rfl) rfl (by show 2 * 0 + _ ≤ _; exact Nat.le_of_eq rfl) (hb hby d30_12) (fun _ _ => ⟨rfl, e8, (by decide : 0 + 0 ≤ _), (by decide : 0 + 0 ≤ _)⟩)
  dsimp only [Pt.U, Pt.locs, Pt.cells, Pt.slots] at X9 l9 y9 z9 st9 hQ9
  rw [l9, y9, z9] at X9
  obtain ⟨rfl, Nq9, e9⟩ := hQ9
  have N9 := Fr.app N7 Nq9
  refine own_go st9 ?_
  show ∃ t o, Steps p.tables e below (T9.setTop (mkF m 15 #[.val (.ref so), .val (.int xi)] [(.int cc)])) t ∧ _
  obtain ⟨fs, hr, hrun, hended, hW, hsame⟩ := X9.leave (v := some (.int (nar .char cc))) (fun h => by rw [Bd.returns] at h; cases h)
  refine ⟨_, _, ?_, hrun, hended, _, _, rfl, ?_, ⟨_, rfl⟩, hW, hsame.mono (by decide) (by decide)⟩
  · exact retN X9 hx (t := .char) Bd.returns (by simp) (hb hby d30_15) hr
  · show Q_rmChG Z _ _ _ _ _ _ _ _ _ h0 n0 _ T9.heap _
    rw [e9]
    exact ⟨(congrArg (fun z => some (Value.int z)) (own_narc hrg)), N9, rfl⟩
theorem own_rgc (x : Int32) : own_rg ((x &&& (255 : Int32)).toUInt32.toUInt16.toUInt32.toInt32) := by
  have t : ∀ k : Fin 256, ¬ ((Int32.ofNat k.val).toUInt32.toUInt16.toUInt32.toInt32) < 0 ∧ ¬ (255 : Int32) < ((Int32.ofNat k.val).toUInt32.toUInt16.toUInt32.toInt32) := by decide +kernel
  have h : (x &&& 255).toBitVec.toNat < 256 := by
    simp only [Int32.toBitVec_and, BitVec.toNat_and]
    exact Nat.lt_succ_of_le Nat.and_le_right
  have e : (x &&& 255) = Int32.ofNat (x &&& 255).toBitVec.toNat := by
    apply Int32.toBitVec_inj.mp
    show _ = BitVec.ofNat 32 _
    rw [BitVec.ofNat_toNat]; simp
  rw [e]
  exact t ⟨_, h⟩
theorem own_rgn {x : Int32} (h : own_rg x) : own_rg (nar .char x) := by rw [own_narc h]; exact h
set_option maxHeartbeats 4000000 in
theorem own_law {lc nl y0 y1 y2 z0 z1 z2 nc nd xi : Int32} {uc ud : List Value} (hl : own_4 lc) (hn : own_4 nl) (r0 : own_rg y0) (r1 : own_rg y1) (r2 : own_rg y2) (r3 : own_rg z0) (r4 : own_rg z1) (r5 : own_rg z2) (e1 : uc = own_vs lc y0 y1 y2) (e2 : ud = own_vs nl z0 z1 z2) (e3 : nc = lc) (e4 : nd = nl)
    (hx : xi = 0 ∨ xi = 1 ∨ xi = 2 ∨ xi = 3 ∨ xi = 4 ∨ xi = 5 ∨ xi = 6) : xi < ((lc + (1 : Int32)) + nl) → ¬ (xi < (0 : Int32)) ∧ xi < ((((0 : Int32) + nc) + (1 : Int32)) + nd) ∧ ((([] ++ uc) ++ [(Value.int (47 : Int32))]) ++ ud).getD xi.toNatClampNeg (.int (0 : Int32)) = (.int ((own_exp xi lc y0 y1 y2 z0 z1 z2).toInt8.toInt32)) ∧ own_rg (own_exp xi lc y0 y1 y2 z0 z1 z2) := by
  subst e1 e2 e3 e4
  have r6 : own_rg 47 := ⟨by decide, by decide⟩
  have P : ∀ x0 x1 x2 : Int32, own_pick 0 x0 x1 x2 = x0 ∧ own_pick 1 x0 x1 x2 = x1 ∧ own_pick 2 x0 x1 x2 = x2 := fun x0 x1 x2 => ⟨rfl, rfl, rfl⟩
  have V : ∀ x0 x1 x2 : Int32, own_vs 0 x0 x1 x2 = [] ∧ own_vs 1 x0 x1 x2 = [.int x0.toInt8.toInt32] ∧ own_vs 2 x0 x1 x2 = [.int x0.toInt8.toInt32, .int x1.toInt8.toInt32] ∧ own_vs 3 x0 x1 x2 = [.int x0.toInt8.toInt32, .int x1.toInt8.toInt32, .int x2.toInt8.toInt32] := fun x0 x1 x2 => ⟨rfl, rfl, rfl, rfl⟩
  have key : ∀ (E : Int32) (xl : Int32), own_exp xi xl y0 y1 y2 z0 z1 z2 = E → own_rg E → ∀ (w : List Value) (n : Nat), xi.toNatClampNeg = n → w.getD n (.int (0 : Int32)) = .int E.toInt8.toInt32 → w.getD xi.toNatClampNeg (.int (0 : Int32)) = (.int ((own_exp xi xl y0 y1 y2 z0 z1 z2).toInt8.toInt32)) ∧ own_rg (own_exp xi xl y0 y1 y2 z0 z1 z2) := fun E xl h1 h2 w n h3 h4 => by rw [h1, h3]; exact ⟨h4, h2⟩
  rcases hl with rfl | rfl | rfl | rfl
  · rcases hn with rfl | rfl | rfl | rfl
    · rcases hx with rfl | rfl | rfl | rfl | rfl | rfl | rfl
      · exact fun _ => ⟨by decide, by decide, key 47 0 ((if_neg (by decide)).trans (if_pos rfl)) r6 _ 0 rfl rfl⟩
      · exact fun h => absurd h (by decide)
      · exact fun h => absurd h (by decide)
      · exact fun h => absurd h (by decide)
      · exact fun h => absurd h (by decide)
      · exact fun h => absurd h (by decide)
      · exact fun h => absurd h (by decide)
    · rcases hx with rfl | rfl | rfl | rfl | rfl | rfl | rfl
      · exact fun _ => ⟨by decide, by decide, key 47 0 ((if_neg (by decide)).trans (if_pos rfl)) r6 _ 0 rfl rfl⟩
      · exact fun _ => ⟨by decide, by decide, key z0 0 ((if_neg (by decide)).trans ((if_neg (by decide)).trans (P z0 z1 z2).1)) r3 _ 1 rfl rfl⟩
      · exact fun h => absurd h (by decide)
      · exact fun h => absurd h (by decide)
      · exact fun h => absurd h (by decide)
      · exact fun h => absurd h (by decide)
      · exact fun h => absurd h (by decide)
    · rcases hx with rfl | rfl | rfl | rfl | rfl | rfl | rfl
      · exact fun _ => ⟨by decide, by decide, key 47 0 ((if_neg (by decide)).trans (if_pos rfl)) r6 _ 0 rfl rfl⟩
      · exact fun _ => ⟨by decide, by decide, key z0 0 ((if_neg (by decide)).trans ((if_neg (by decide)).trans (P z0 z1 z2).1)) r3 _ 1 rfl rfl⟩
      · exact fun _ => ⟨by decide, by decide, key z1 0 ((if_neg (by decide)).trans ((if_neg (by decide)).trans (P z0 z1 z2).2.1)) r4 _ 2 rfl rfl⟩
      · exact fun h => absurd h (by decide)
      · exact fun h => absurd h (by decide)
      · exact fun h => absurd h (by decide)
      · exact fun h => absurd h (by decide)
    · rcases hx with rfl | rfl | rfl | rfl | rfl | rfl | rfl
      · exact fun _ => ⟨by decide, by decide, key 47 0 ((if_neg (by decide)).trans (if_pos rfl)) r6 _ 0 rfl rfl⟩
      · exact fun _ => ⟨by decide, by decide, key z0 0 ((if_neg (by decide)).trans ((if_neg (by decide)).trans (P z0 z1 z2).1)) r3 _ 1 rfl rfl⟩
      · exact fun _ => ⟨by decide, by decide, key z1 0 ((if_neg (by decide)).trans ((if_neg (by decide)).trans (P z0 z1 z2).2.1)) r4 _ 2 rfl rfl⟩
      · exact fun _ => ⟨by decide, by decide, key z2 0 ((if_neg (by decide)).trans ((if_neg (by decide)).trans (P z0 z1 z2).2.2)) r5 _ 3 rfl rfl⟩
      · exact fun h => absurd h (by decide)
      · exact fun h => absurd h (by decide)
      · exact fun h => absurd h (by decide)
  · rcases hn with rfl | rfl | rfl | rfl
    · rcases hx with rfl | rfl | rfl | rfl | rfl | rfl | rfl
      · exact fun _ => ⟨by decide, by decide, key y0 1 ((if_pos (by decide)).trans (P y0 y1 y2).1) r0 _ 0 rfl rfl⟩
      · exact fun _ => ⟨by decide, by decide, key 47 1 ((if_neg (by decide)).trans (if_pos rfl)) r6 _ 1 rfl rfl⟩
      · exact fun h => absurd h (by decide)
      · exact fun h => absurd h (by decide)
      · exact fun h => absurd h (by decide)
      · exact fun h => absurd h (by decide)
      · exact fun h => absurd h (by decide)
    · rcases hx with rfl | rfl | rfl | rfl | rfl | rfl | rfl
      · exact fun _ => ⟨by decide, by decide, key y0 1 ((if_pos (by decide)).trans (P y0 y1 y2).1) r0 _ 0 rfl rfl⟩
      · exact fun _ => ⟨by decide, by decide, key 47 1 ((if_neg (by decide)).trans (if_pos rfl)) r6 _ 1 rfl rfl⟩
      · exact fun _ => ⟨by decide, by decide, key z0 1 ((if_neg (by decide)).trans ((if_neg (by decide)).trans (P z0 z1 z2).1)) r3 _ 2 rfl rfl⟩
      · exact fun h => absurd h (by decide)
      · exact fun h => absurd h (by decide)
      · exact fun h => absurd h (by decide)
      · exact fun h => absurd h (by decide)
    · rcases hx with rfl | rfl | rfl | rfl | rfl | rfl | rfl
      · exact fun _ => ⟨by decide, by decide, key y0 1 ((if_pos (by decide)).trans (P y0 y1 y2).1) r0 _ 0 rfl rfl⟩
      · exact fun _ => ⟨by decide, by decide, key 47 1 ((if_neg (by decide)).trans (if_pos rfl)) r6 _ 1 rfl rfl⟩
      · exact fun _ => ⟨by decide, by decide, key z0 1 ((if_neg (by decide)).trans ((if_neg (by decide)).trans (P z0 z1 z2).1)) r3 _ 2 rfl rfl⟩
      · exact fun _ => ⟨by decide, by decide, key z1 1 ((if_neg (by decide)).trans ((if_neg (by decide)).trans (P z0 z1 z2).2.1)) r4 _ 3 rfl rfl⟩
      · exact fun h => absurd h (by decide)
      · exact fun h => absurd h (by decide)
      · exact fun h => absurd h (by decide)
    · rcases hx with rfl | rfl | rfl | rfl | rfl | rfl | rfl
      · exact fun _ => ⟨by decide, by decide, key y0 1 ((if_pos (by decide)).trans (P y0 y1 y2).1) r0 _ 0 rfl rfl⟩
      · exact fun _ => ⟨by decide, by decide, key 47 1 ((if_neg (by decide)).trans (if_pos rfl)) r6 _ 1 rfl rfl⟩
      · exact fun _ => ⟨by decide, by decide, key z0 1 ((if_neg (by decide)).trans ((if_neg (by decide)).trans (P z0 z1 z2).1)) r3 _ 2 rfl rfl⟩
      · exact fun _ => ⟨by decide, by decide, key z1 1 ((if_neg (by decide)).trans ((if_neg (by decide)).trans (P z0 z1 z2).2.1)) r4 _ 3 rfl rfl⟩
      · exact fun _ => ⟨by decide, by decide, key z2 1 ((if_neg (by decide)).trans ((if_neg (by decide)).trans (P z0 z1 z2).2.2)) r5 _ 4 rfl rfl⟩
      · exact fun h => absurd h (by decide)
      · exact fun h => absurd h (by decide)
  · rcases hn with rfl | rfl | rfl | rfl
    · rcases hx with rfl | rfl | rfl | rfl | rfl | rfl | rfl
      · exact fun _ => ⟨by decide, by decide, key y0 2 ((if_pos (by decide)).trans (P y0 y1 y2).1) r0 _ 0 rfl rfl⟩
      · exact fun _ => ⟨by decide, by decide, key y1 2 ((if_pos (by decide)).trans (P y0 y1 y2).2.1) r1 _ 1 rfl rfl⟩
      · exact fun _ => ⟨by decide, by decide, key 47 2 ((if_neg (by decide)).trans (if_pos rfl)) r6 _ 2 rfl rfl⟩
      · exact fun h => absurd h (by decide)
      · exact fun h => absurd h (by decide)
      · exact fun h => absurd h (by decide)
      · exact fun h => absurd h (by decide)
    · rcases hx with rfl | rfl | rfl | rfl | rfl | rfl | rfl
      · exact fun _ => ⟨by decide, by decide, key y0 2 ((if_pos (by decide)).trans (P y0 y1 y2).1) r0 _ 0 rfl rfl⟩
      · exact fun _ => ⟨by decide, by decide, key y1 2 ((if_pos (by decide)).trans (P y0 y1 y2).2.1) r1 _ 1 rfl rfl⟩
      · exact fun _ => ⟨by decide, by decide, key 47 2 ((if_neg (by decide)).trans (if_pos rfl)) r6 _ 2 rfl rfl⟩
      · exact fun _ => ⟨by decide, by decide, key z0 2 ((if_neg (by decide)).trans ((if_neg (by decide)).trans (P z0 z1 z2).1)) r3 _ 3 rfl rfl⟩
      · exact fun h => absurd h (by decide)
      · exact fun h => absurd h (by decide)
      · exact fun h => absurd h (by decide)
    · rcases hx with rfl | rfl | rfl | rfl | rfl | rfl | rfl
      · exact fun _ => ⟨by decide, by decide, key y0 2 ((if_pos (by decide)).trans (P y0 y1 y2).1) r0 _ 0 rfl rfl⟩
      · exact fun _ => ⟨by decide, by decide, key y1 2 ((if_pos (by decide)).trans (P y0 y1 y2).2.1) r1 _ 1 rfl rfl⟩
      · exact fun _ => ⟨by decide, by decide, key 47 2 ((if_neg (by decide)).trans (if_pos rfl)) r6 _ 2 rfl rfl⟩
      · exact fun _ => ⟨by decide, by decide, key z0 2 ((if_neg (by decide)).trans ((if_neg (by decide)).trans (P z0 z1 z2).1)) r3 _ 3 rfl rfl⟩
      · exact fun _ => ⟨by decide, by decide, key z1 2 ((if_neg (by decide)).trans ((if_neg (by decide)).trans (P z0 z1 z2).2.1)) r4 _ 4 rfl rfl⟩
      · exact fun h => absurd h (by decide)
      · exact fun h => absurd h (by decide)
    · rcases hx with rfl | rfl | rfl | rfl | rfl | rfl | rfl
      · exact fun _ => ⟨by decide, by decide, key y0 2 ((if_pos (by decide)).trans (P y0 y1 y2).1) r0 _ 0 rfl rfl⟩
      · exact fun _ => ⟨by decide, by decide, key y1 2 ((if_pos (by decide)).trans (P y0 y1 y2).2.1) r1 _ 1 rfl rfl⟩
      · exact fun _ => ⟨by decide, by decide, key 47 2 ((if_neg (by decide)).trans (if_pos rfl)) r6 _ 2 rfl rfl⟩
      · exact fun _ => ⟨by decide, by decide, key z0 2 ((if_neg (by decide)).trans ((if_neg (by decide)).trans (P z0 z1 z2).1)) r3 _ 3 rfl rfl⟩
      · exact fun _ => ⟨by decide, by decide, key z1 2 ((if_neg (by decide)).trans ((if_neg (by decide)).trans (P z0 z1 z2).2.1)) r4 _ 4 rfl rfl⟩
      · exact fun _ => ⟨by decide, by decide, key z2 2 ((if_neg (by decide)).trans ((if_neg (by decide)).trans (P z0 z1 z2).2.2)) r5 _ 5 rfl rfl⟩
      · exact fun h => absurd h (by decide)
  · rcases hn with rfl | rfl | rfl | rfl
    · rcases hx with rfl | rfl | rfl | rfl | rfl | rfl | rfl
      · exact fun _ => ⟨by decide, by decide, key y0 3 ((if_pos (by decide)).trans (P y0 y1 y2).1) r0 _ 0 rfl rfl⟩
      · exact fun _ => ⟨by decide, by decide, key y1 3 ((if_pos (by decide)).trans (P y0 y1 y2).2.1) r1 _ 1 rfl rfl⟩
      · exact fun _ => ⟨by decide, by decide, key y2 3 ((if_pos (by decide)).trans (P y0 y1 y2).2.2) r2 _ 2 rfl rfl⟩
      · exact fun _ => ⟨by decide, by decide, key 47 3 ((if_neg (by decide)).trans (if_pos rfl)) r6 _ 3 rfl rfl⟩
      · exact fun h => absurd h (by decide)
      · exact fun h => absurd h (by decide)
      · exact fun h => absurd h (by decide)
    · rcases hx with rfl | rfl | rfl | rfl | rfl | rfl | rfl
      · exact fun _ => ⟨by decide, by decide, key y0 3 ((if_pos (by decide)).trans (P y0 y1 y2).1) r0 _ 0 rfl rfl⟩
      · exact fun _ => ⟨by decide, by decide, key y1 3 ((if_pos (by decide)).trans (P y0 y1 y2).2.1) r1 _ 1 rfl rfl⟩
      · exact fun _ => ⟨by decide, by decide, key y2 3 ((if_pos (by decide)).trans (P y0 y1 y2).2.2) r2 _ 2 rfl rfl⟩
      · exact fun _ => ⟨by decide, by decide, key 47 3 ((if_neg (by decide)).trans (if_pos rfl)) r6 _ 3 rfl rfl⟩
      · exact fun _ => ⟨by decide, by decide, key z0 3 ((if_neg (by decide)).trans ((if_neg (by decide)).trans (P z0 z1 z2).1)) r3 _ 4 rfl rfl⟩
      · exact fun h => absurd h (by decide)
      · exact fun h => absurd h (by decide)
    · rcases hx with rfl | rfl | rfl | rfl | rfl | rfl | rfl
      · exact fun _ => ⟨by decide, by decide, key y0 3 ((if_pos (by decide)).trans (P y0 y1 y2).1) r0 _ 0 rfl rfl⟩
      · exact fun _ => ⟨by decide, by decide, key y1 3 ((if_pos (by decide)).trans (P y0 y1 y2).2.1) r1 _ 1 rfl rfl⟩
      · exact fun _ => ⟨by decide, by decide, key y2 3 ((if_pos (by decide)).trans (P y0 y1 y2).2.2) r2 _ 2 rfl rfl⟩
      · exact fun _ => ⟨by decide, by decide, key 47 3 ((if_neg (by decide)).trans (if_pos rfl)) r6 _ 3 rfl rfl⟩
      · exact fun _ => ⟨by decide, by decide, key z0 3 ((if_neg (by decide)).trans ((if_neg (by decide)).trans (P z0 z1 z2).1)) r3 _ 4 rfl rfl⟩
      · exact fun _ => ⟨by decide, by decide, key z1 3 ((if_neg (by decide)).trans ((if_neg (by decide)).trans (P z0 z1 z2).2.1)) r4 _ 5 rfl rfl⟩
      · exact fun h => absurd h (by decide)
    · rcases hx with rfl | rfl | rfl | rfl | rfl | rfl | rfl
      · exact fun _ => ⟨by decide, by decide, key y0 3 ((if_pos (by decide)).trans (P y0 y1 y2).1) r0 _ 0 rfl rfl⟩
      · exact fun _ => ⟨by decide, by decide, key y1 3 ((if_pos (by decide)).trans (P y0 y1 y2).2.1) r1 _ 1 rfl rfl⟩
      · exact fun _ => ⟨by decide, by decide, key y2 3 ((if_pos (by decide)).trans (P y0 y1 y2).2.2) r2 _ 2 rfl rfl⟩
      · exact fun _ => ⟨by decide, by decide, key 47 3 ((if_neg (by decide)).trans (if_pos rfl)) r6 _ 3 rfl rfl⟩
      · exact fun _ => ⟨by decide, by decide, key z0 3 ((if_neg (by decide)).trans ((if_neg (by decide)).trans (P z0 z1 z2).1)) r3 _ 4 rfl rfl⟩
      · exact fun _ => ⟨by decide, by decide, key z1 3 ((if_neg (by decide)).trans ((if_neg (by decide)).trans (P z0 z1 z2).2.1)) r4 _ 5 rfl rfl⟩
      · exact fun _ => ⟨by decide, by decide, key z2 3 ((if_neg (by decide)).trans ((if_neg (by decide)).trans (P z0 z1 z2).2.2)) r5 _ 6 rfl rfl⟩
theorem ef_rmS4 (m : MethodId) (x0 : Nat) (x1 : Nat) (x2 : Int32) (x3 : Int32) : entryFrame m #[(.ref x0), (.ref x1), (.int x2), (.int x3), .null] 6 = mkF m 0 #[.val (.ref x0), .val (.ref x1), .val (.int x2), .val (.int x3), .val .null, .unset] [] := by first | (simp [entryFrame, mkF, argsToLocals, Value.category]; done) | rfl
theorem d3_0 : decode jdk_42_method_149_code 0 = .ok (.aload_n 0, 1) := by decide +kernel
theorem d3_1 : decode jdk_42_method_149_code 1 = .ok (.invokespecial 1, 3) := by decide +kernel
theorem d3_4 : decode jdk_42_method_149_code 4 = .ok (.iload_n 3, 1) := by decide +kernel
theorem d3_5 : decode jdk_42_method_149_code 5 = .ok (.ifCond .ne 22, 3) := by decide +kernel
theorem d3_8 : decode jdk_42_method_149_code 8 = .ok (.aload_n 0, 1) := by decide +kernel
theorem d3_9 : decode jdk_42_method_149_code 9 = .ok (.ldc 7, 2) := by decide +kernel
theorem d3_11 : decode jdk_42_method_149_code 11 = .ok (.getfield 9, 3) := by decide +kernel
theorem d3_14 : decode jdk_42_method_149_code 14 = .ok (.putfield 9, 3) := by decide +kernel
theorem d3_17 : decode jdk_42_method_149_code 17 = .ok (.aload_n 0, 1) := by decide +kernel
theorem d3_18 : decode jdk_42_method_149_code 18 = .ok (.ldc 7, 2) := by decide +kernel
theorem d3_20 : decode jdk_42_method_149_code 20 = .ok (.getfield 15, 3) := by decide +kernel
theorem d3_23 : decode jdk_42_method_149_code 23 = .ok (.putfield 15, 3) := by decide +kernel
theorem d3_26 : decode jdk_42_method_149_code 26 = .ok (.return_, 1) := by decide +kernel
def Q_rmS4 (Z : State) (a1 : Nat) (ca : Nat) (h0 : Heap) (n0 : Nat) (v : Option Value) (h : Heap) (L : List Loc) : Prop := ∃ (tb : Nat), ∃ (kb : ClassId), v = none ∧ Fr n0 L ∧ Keep h0 h [a1] ∧ Exa Z h a1 "java/lang/String" ∧ Fld Z h a1 "java/lang/String" "value" "[B" (.ref tb) ∧ Fld Z h a1 "java/lang/String" "coder" "B" (.int (0 : Int32)) ∧ Arv Z h tb kb .byte (0 : Int32) [] (.int (0 : Int32))
set_option maxRecDepth 65536 in
set_option maxHeartbeats 40000000 in
theorem rmS4 (l : Launch) (Z : State) (a0 : Array Value) (hw : ∀ d ∈ tables_1, d.before a0 Z = true) (ws : List Jvm.Cond) (a1 : Nat) (ca : Nat) (h0 : Heap) (n0 : Nat) (Z0 : n0 ≤ h0.size) (P1 : Exa Z h0 a1 "java/lang/String") (P2 : Fld Z h0 a1 "java/lang/String" "value" "[B" .null) (P3 : Fld Z h0 a1 "java/lang/String" "coder" "B" (.int (0 : Int32))) (OLD : Old Z n0 h0) (ga : n0 ≤ a1) (hEL : EW Z a0 own_EL) :
    MetFree l (⟨"java/lang/String", "<init>", "([CIILjava/lang/Void;)V"⟩ : MethodName) (head1 (Jvm.Cond.code (⟨"java/lang/String", "<init>", "([CIILjava/lang/Void;)V"⟩ : MethodName) jdk_42_method_149_code 6 none :: ws) ({ frames := 1, cells := 4, slots := 8, locals := 12 } : Room)) (fun a U => a = #[(.ref a1), (.ref ca), (.int (0 : Int32)), (.int (0 : Int32)), .null] ∧ Z.Warmed39 U.vm ∧ U.heap = h0 ∧ CHv Z own_EL U.vm h0) (fun _ _ _ _ _ => True) (fun _ U o U' => ∃ v L, o = .returned v ∧ Q_rmS4 Z a1 ca h0 n0 v U'.heap L ∧ CHr Z own_EL U.vm U.heap U'.vm U'.heap ∧ ReturnedEndW U o U' L ({ frames := 1, cells := 4, slots := 8, locals := 12 } : Room).cells ({ frames := 1, cells := 4, slots := 8, locals := 12 } : Room).slots) := by
  refine MetFree.of_bodySF (plainFor_of_name pn_java_lang_String) hisR ?_
  intro p e s m args below meth c s₁ Bd hml0 hP hK
  obtain ⟨rfl, hZ, hh, hCH⟩ := hP
  have hx := Bd.exec
  have hby := Bd.bytes
  have hml : c.maxLocals = 6 := hml0
  have hown : s.vm.findClass "java/lang/String" = some m.cls := findClass_of_methodNamed Bd.named
  have hnm := (name_of_methodNamed Bd.named Bd.method).1
  have X0 : Stand p l e ({ frames := 1, cells := 4, slots := 8, locals := 12 } : Room) (s.setVm s.vm) m #[(.ref a1), (.ref ca), (.int (0 : Int32)), (.int (0 : Int32)), .null] below meth c s₁ [] 0 0 := Stand.of_body Bd
  have e0 : s₁.heap = h0 := by rw [← hh, Bd.state]; rfl
  have N0 := Fr.nil n0
  have pre0 : ∀ t, Steps p.tables e below (s₁.setTop (mkF m 0 #[.val (.ref a1), .val (.ref ca), .val (.int (0 : Int32)), .val (.int (0 : Int32)), .val .null, .unset] [])) t → Steps p.tables e below (s₁.setTop (entryFrame m #[(.ref a1), (.ref ca), (.int (0 : Int32)), (.int (0 : Int32)), .null] 6)) t := fun t k => castTop (ef_rmS4 m a1 ca (0 : Int32) (0 : Int32)) k
  have hZ : Z.Warmed39 (s.setVm s.vm).vm := hZ
  have hown : (s.setVm s.vm).vm.findClass "java/lang/String" = some m.cls := hown
  have hS : s.Since s.vm 0 := (State.WarmedH.refl s).since 0
  have CH0 : CHr Z own_EL s.vm h0 s.vm h0 := CHr.refl hCH
  have wS : ∀ a ∈ Bundle.stringAtoms, a.before a0 Z = true := fun d hd => hw d ((by decide +kernel : ∀ d ∈ Bundle.stringAtoms, d ∈ tables_1) d hd)
  have oz := OLD.1
  have lt_a1 : a1 < h0.size := P1.lt
  have Sf0 := own_safe_null (EL := own_EL) hZ.alike P1 P2
  refine own_go (B := s₁.setTop (mkF m 0 #[.val (.ref a1), .val (.ref ca), .val (.int (0 : Int32)), .val (.int (0 : Int32)), .val .null, .unset] [])) pre0 ?_
  show ∃ t o, Steps p.tables e below (s₁.setTop (mkF m 0 #[.val (.ref a1), .val (.ref ca), .val (.int (0 : Int32)), .val (.int (0 : Int32)), .val .null, .unset] [])) t ∧ _
  refine own_go (fun _ => XS.aloadN X0.here hx rfl (hb hby d3_0) rfl rfl) ?_
  show ∃ t o, Steps p.tables e below (s₁.setTop (mkF m 1 #[.val (.ref a1), .val (.ref ca), .val (.int (0 : Int32)), .val (.int (0 : Int32)), .val .null, .unset] [(.ref a1)])) t ∧ _
  obtain ⟨T4, X4, e4, st4⟩ := initO X0 hx hZ hown (hw _ (List.mem_of_getElem? (i := 15) rfl)) (hw _ (List.mem_of_getElem? (i := 16) rfl)) (hw _ (List.mem_of_getElem? (i := 17) rfl)) e0 (g := (mkF m 1 #[.val (.ref a1), .val (.ref ca), .val (.int (0 : Int32)), .val (.int (0 : Int32)), .val .null, .unset] [(.ref a1)])) rfl (by rw [hml]; rfl) rfl (hb hby d3_1) (by decide) (W := 0) (by show 2 * 0 + _ ≤ _; exact Nat.le_of_eq rfl) (by decide)
  refine own_go st4 ?_
  refine own_go (fun _ => XS.iloadN X4.here hx rfl (hb hby d3_4) rfl) ?_
  show ∃ t o, Steps p.tables e below (T4.setTop (mkF m 5 #[.val (.ref a1), .val (.ref ca), .val (.int (0 : Int32)), .val (.int (0 : Int32)), .val .null, .unset] [(.int (0 : Int32))])) t ∧ _
  refine own_go (fun _ => XS.ifNo X4.here hx rfl (hb hby d3_5) rfl ((if0 _ _).trans (teq (by decide : (0 : Int32) = (0 : Int32))).2)) ?_
  refine own_go (fun _ => XS.aloadN X4.here hx rfl (hb hby d3_8) rfl rfl) ?_
  obtain ⟨a5, T5, h5, kS5, b5, kb5, X5, e5, E5, hS, hk5, hZ, hown, A5, Fc5, Fv5, Av5, lta5, ltb5, cr5, -, hne5, st5⟩ := ldcCH X4 hx hZ hown (hw _ (List.mem_of_getElem? (i := 18) rfl)) wS e4 hS (Nat.zero_le _) hEL own_mem CH0.1 (vs := []) (z := 0) ⟨by decide, rfl⟩ (by decide) rfl (g := (mkF m 9 #[.val (.ref a1), .val (.ref ca), .val (.int (0 : Int32)), .val (.int (0 : Int32)), .val .null, .unset] [(.ref a1)])) rfl (hb hby d3_9) (n := 0) (by decide) (by decide) (by decide) (by decide)
  refine own_go st5 ?_
  have K5 : Keep h0 h5 [a1] := Keep.ext (Keep.refl h0 [a1]) E5
  have le_5 : h0.size ≤ h5.size := E5.1
  have Sf6 := CHr.safe cr5 (show (a1 : Nat) < h0.size by omega) Sf0
  have CH7 := CHr.trans CH0 cr5
  have lt_a5 := own_ltn lta5
  have lt_b5 := own_ltn ltb5
  show ∃ t o, Steps p.tables e below (T5.setTop (mkF m 11 #[.val (.ref a1), .val (.ref ca), .val (.int (0 : Int32)), .val (.int (0 : Int32)), .val .null, .unset] [(.ref a5), (.ref a1)])) t ∧ _
  obtain ⟨T8, X8, e8, st8⟩ := getF X5 hx hZ hown (host := "") (Or.inl (hw _ (List.mem_of_getElem? (i := 24) rfl))) Via.refl e5 Fv5 (g := (mkF m 11 #[.val (.ref a1), .val (.ref ca), .val (.int (0 : Int32)), .val (.int (0 : Int32)), .val .null, .unset] [(.ref a5), (.ref a1)])) rfl rfl (hb hby d3_11)
  refine own_go st8 ?_
  have F9 : Exa Z h5 a1 "java/lang/String" := (Exa.ext E5 P1)
  have F10 : Fld Z h5 a1 "java/lang/String" "value" "[B" .null := (Fld.ext E5 P2)
  obtain ⟨T11, h11, X11, e11, W11, st11⟩ := putF X8 hx hZ hown (host := "") (Or.inl (hw _ (List.mem_of_getElem? (i := 24) rfl))) Via.refl e8 F10 F9 (Or.inr ⟨(hw _ (List.mem_of_getElem? (i := 20) rfl)), rfl, hnm⟩) (hw _ (List.mem_of_getElem? (i := 5) rfl)) (ty := (.array .byte)) (by decide) rfl rfl (g := (mkF m 14 #[.val (.ref a1), .val (.ref ca), .val (.int (0 : Int32)), .val (.int (0 : Int32)), .val .null, .unset] [(.ref b5), (.ref a1)])) rfl rfl (hb hby d3_14)
  refine own_go st11 ?_
  have Sf12 := Safe.wr W11 Sf6 CH7.1 Sf6
  have CH13 := CHr.trans CH7 (CHr.wr W11 Sf6 CH7.1)
  have le_11 : h5.size ≤ h11.size := Nat.le_of_eq W11.size.symm
  have K11 : Keep h0 h11 [a1] := Keep.wr K5 W11 (Or.inl (List.mem_of_getElem? (i := 0) rfl))
  have N11 := Fr.snoc X11 N0 ga
  have Fw11 := Fld.same W11 F10
  refine own_go (fun _ => XS.aloadN X11.here hx rfl (hb hby d3_17) rfl rfl) ?_
  show ∃ t o, Steps p.tables e below (T11.setTop (mkF m 18 #[.val (.ref a1), .val (.ref ca), .val (.int (0 : Int32)), .val (.int (0 : Int32)), .val .null, .unset] [(.ref a1)])) t ∧ _
  obtain ⟨a14, T14, h14, kS14, b14, kb14, X14, e14, E14, hS, hk14, hZ, hown, A14, Fc14, Fv14, Av14, lta14, ltb14, cr14, -, hne14, st14⟩ := ldcCH X11 hx hZ hown (hw _ (List.mem_of_getElem? (i := 18) rfl)) wS e11 hS (by omega) hEL own_mem CH13.1 (vs := []) (z := 0) ⟨by decide, rfl⟩ (by decide) rfl (g := (mkF m 18 #[.val (.ref a1), .val (.ref ca), .val (.int (0 : Int32)), .val (.int (0 : Int32)), .val .null, .unset] [(.ref a1)])) rfl (hb hby d3_18) (n := 0) (by decide) (by decide) (by decide) (by decide)
  refine own_go st14 ?_
  have K14 : Keep h0 h14 [a1] := Keep.ext K11 E14
  have le_14 : h11.size ≤ h14.size := E14.1
  have Sf15 := CHr.safe cr14 (show (a1 : Nat) < h11.size by omega) Sf12
  have CH16 := CHr.trans CH13 cr14
  have lt_a14 := own_ltn lta14
  have lt_b14 := own_ltn ltb14
  obtain ⟨T17, X17, e17, st17⟩ := getF X14 hx hZ hown (host := "") (Or.inl (hw _ (List.mem_of_getElem? (i := 25) rfl))) Via.refl e14 Fc14 (g := (mkF m 20 #[.val (.ref a1), .val (.ref ca), .val (.int (0 : Int32)), .val (.int (0 : Int32)), .val .null, .unset] [(.ref a14), (.ref a1)])) rfl rfl (hb hby d3_20)
  refine own_go st17 ?_
  have F18 : Exa Z h14 a1 "java/lang/String" := (Exa.ext E14 (Exa.wr W11 F9))
  have F19 : Fld Z h14 a1 "java/lang/String" "coder" "B" (.int (0 : Int32)) := (Fld.ext E14 (Fld.other W11 (Fld.ext E5 P3) (Or.inr (slot_ne (a0 := a0) (Or.inr (hw _ (List.mem_of_getElem? (i := 21) rfl))) (Or.inr (hw _ (List.mem_of_getElem? (i := 20) rfl))) (by decide) (t := .byte) (t' := (.array .byte)) (by decide) (by decide)))))
  obtain ⟨T20, h20, X20, e20, W20, st20⟩ := putFN X17 hx hZ hown (hw _ (List.mem_of_getElem? (i := 25) rfl)) Via.refl e17 F19 F18 (Or.inr ⟨(hw _ (List.mem_of_getElem? (i := 21) rfl)), rfl, hnm⟩) (hw _ (List.mem_of_getElem? (i := 5) rfl)) (ty := .byte) (v' := (.int (0 : Int32).toInt8.toInt32)) (by decide) rfl (fits_nar_byte _) (g := (mkF m 23 #[.val (.ref a1), .val (.ref ca), .val (.int (0 : Int32)), .val (.int (0 : Int32)), .val .null, .unset] [(.int (0 : Int32)), (.ref a1)])) rfl rfl (hb hby d3_23)
  refine own_go st20 ?_
  have Sf21 := Safe.wr W20 Sf15 CH16.1 Sf15
  have CH22 := CHr.trans CH16 (CHr.wr W20 Sf15 CH16.1)
  have le_20 : h14.size ≤ h20.size := Nat.le_of_eq W20.size.symm
  have K20 : Keep h0 h20 [a1] := Keep.wr K14 W20 (Or.inl (List.mem_of_getElem? (i := 0) rfl))
  have N20 := Fr.snoc X20 N11 ga
  have Fw20 := Fld.same W20 F19
  have Fcz : Fld Z h20 a1 "java/lang/String" "coder" "B" (.int (0 : Int32)) := Fw20
  show ∃ t o, Steps p.tables e below (T20.setTop (mkF m 26 #[.val (.ref a1), .val (.ref ca), .val (.int (0 : Int32)), .val (.int (0 : Int32)), .val .null, .unset] [])) t ∧ _
  have F23 : Exa Z h20 a1 "java/lang/String" := (Exa.wr W20 F18)
  have F24 : Fld Z h20 a1 "java/lang/String" "value" "[B" (.ref b5) := (Fld.other W20 (Fld.ext E14 Fw11) (Or.inr (slot_ne (a0 := a0) (Or.inr (hw _ (List.mem_of_getElem? (i := 20) rfl))) (Or.inr (hw _ (List.mem_of_getElem? (i := 21) rfl))) (by decide) (t := (.array .byte)) (t' := .byte) (by decide) (by decide))))
  have F25 : Arv Z h20 b5 kb5 .byte (0 : Int32) [] (.int (0 : Int32)) := (Arv.other ((Arv.other Av5 W11 (Ne.symm (hne5 _ Sf6).2)).ext E14) W20 (Ne.symm (hne5 _ Sf6).2))
  obtain ⟨fs, hr, hrun, hended, hW⟩ := Jvm.Stand.leaveW X20 hS (by rw [e20]; omega) (v := none) (fun _ => rfl)
  have CHz : CHr Z own_EL s.vm s.heap T20.vm T20.heap := by rw [hh, e20]; exact CHr.trans CH22 (CHv.at X20 hZ hEL CH22.1)
  refine ⟨_, _, ?_, hrun, hended, _, _, rfl, ?_, CHz, ⟨hW.1, hW.2.1, hW.2.2.1, hW.2.2.2.mono (by decide) (by decide)⟩⟩
  · exact X20.returnOut hx Bd.returns (hb hby d3_26) hr
  · show Q_rmS4 Z _ _ h0 n0 _ T20.heap _
    rw [e20]
    exact ⟨b5, kb5, rfl, N20, K20, F23, F24, Fcz, F25⟩
theorem ef_rmS1 (m : MethodId) (x0 : Nat) (x1 : Nat) : entryFrame m #[(.ref x0), (.ref x1)] 2 = mkF m 0 #[.val (.ref x0), .val (.ref x1)] [] := by first | (simp [entryFrame, mkF, argsToLocals, Value.category]; done) | rfl
theorem d2_0 : decode jdk_42_method_3_code 0 = .ok (.aload_n 0, 1) := by decide +kernel
theorem d2_1 : decode jdk_42_method_3_code 1 = .ok (.aload_n 1, 1) := by decide +kernel
theorem d2_2 : decode jdk_42_method_3_code 2 = .ok (.iconst 0, 1) := by decide +kernel
theorem d2_3 : decode jdk_42_method_3_code 3 = .ok (.aload_n 1, 1) := by decide +kernel
theorem d2_4 : decode jdk_42_method_3_code 4 = .ok (.arraylength, 1) := by decide +kernel
theorem d2_5 : decode jdk_42_method_3_code 5 = .ok (.aconst_null, 1) := by decide +kernel
theorem d2_6 : decode jdk_42_method_3_code 6 = .ok (.invokespecial 27, 3) := by decide +kernel
theorem pd__28_5bCIILjava_2flang_2fVoid_3b_29V : parseMethodDescriptor "([CIILjava/lang/Void;)V" = some ⟨[(.array .char), .int, .int, (.object "java/lang/Void")], none⟩ := by decide +kernel
theorem d2_9 : decode jdk_42_method_3_code 9 = .ok (.return_, 1) := by decide +kernel
def Q_rmS1 (Z : State) (a1 : Nat) (ca : Nat) (kc : ClassId) (h0 : Heap) (n0 : Nat) (v : Option Value) (h : Heap) (L : List Loc) : Prop := ∃ (tb : Nat), ∃ (kb : ClassId), v = none ∧ Fr n0 L ∧ Keep h0 h [a1] ∧ Exa Z h a1 "java/lang/String" ∧ Fld Z h a1 "java/lang/String" "value" "[B" (.ref tb) ∧ Fld Z h a1 "java/lang/String" "coder" "B" (.int (0 : Int32)) ∧ Arv Z h tb kb .byte (0 : Int32) [] (.int (0 : Int32))
set_option maxRecDepth 65536 in
set_option maxHeartbeats 40000000 in
theorem rmS1 (l : Launch) (Z : State) (a0 : Array Value) (hw : ∀ d ∈ tables_1, d.before a0 Z = true) (ws : List Jvm.Cond) (a1 : Nat) (ca : Nat) (kc : ClassId) (h0 : Heap) (n0 : Nat) (Z0 : n0 ≤ h0.size) (P1 : Exa Z h0 a1 "java/lang/String") (P2 : Fld Z h0 a1 "java/lang/String" "value" "[B" .null) (P3 : Fld Z h0 a1 "java/lang/String" "coder" "B" (.int (0 : Int32))) (P4 : Arv Z h0 ca kc .char (0 : Int32) [] (.int (0 : Int32))) (OLD : Old Z n0 h0) (ga : n0 ≤ a1) (hEL : EW Z a0 own_EL) :
    MetFree l (⟨"java/lang/String", "<init>", "([C)V"⟩ : MethodName) (head1 (Jvm.Cond.code (⟨"java/lang/String", "<init>", "([C)V"⟩ : MethodName) jdk_42_method_3_code 2 none :: ws) ({ frames := 2, cells := 4, slots := 8, locals := 29 } : Room)) (fun a U => a = #[(.ref a1), (.ref ca)] ∧ Z.Warmed39 U.vm ∧ U.heap = h0 ∧ CHv Z own_EL U.vm h0) (fun _ _ _ _ _ => True) (fun _ U o U' => ∃ v L, o = .returned v ∧ Q_rmS1 Z a1 ca kc h0 n0 v U'.heap L ∧ CHr Z own_EL U.vm U.heap U'.vm U'.heap ∧ ReturnedEndW U o U' L ({ frames := 2, cells := 4, slots := 8, locals := 29 } : Room).cells ({ frames := 2, cells := 4, slots := 8, locals := 29 } : Room).slots) := by
  refine MetFree.of_bodySF (plainFor_of_name pn_java_lang_String) hisR ?_
  intro p e s m args below meth c s₁ Bd hml0 hP hK
  obtain ⟨rfl, hZ, hh, hCH⟩ := hP
  have hx := Bd.exec
  have hby := Bd.bytes
  have hml : c.maxLocals = 2 := hml0
  have hown : s.vm.findClass "java/lang/String" = some m.cls := findClass_of_methodNamed Bd.named
  have hnm := (name_of_methodNamed Bd.named Bd.method).1
  have X0 : Stand p l e ({ frames := 2, cells := 4, slots := 8, locals := 29 } : Room) (s.setVm s.vm) m #[(.ref a1), (.ref ca)] below meth c s₁ [] 0 0 := Stand.of_body Bd
  have e0 : s₁.heap = h0 := by rw [← hh, Bd.state]; rfl
  have N0 := Fr.nil n0
  have pre0 : ∀ t, Steps p.tables e below (s₁.setTop (mkF m 0 #[.val (.ref a1), .val (.ref ca)] [])) t → Steps p.tables e below (s₁.setTop (entryFrame m #[(.ref a1), (.ref ca)] 2)) t := fun t k => castTop (ef_rmS1 m a1 ca) k
  have hZ : Z.Warmed39 (s.setVm s.vm).vm := hZ
  have hown : (s.setVm s.vm).vm.findClass "java/lang/String" = some m.cls := hown
  have hS : s.Since s.vm 0 := (State.WarmedH.refl s).since 0
  have CH0 : CHr Z own_EL s.vm h0 s.vm h0 := CHr.refl hCH
  have oz := OLD.1
  have lt_a1 : a1 < h0.size := P1.lt
  have lt_ca : ca < h0.size := P4.lt
  refine own_go (B := s₁.setTop (mkF m 0 #[.val (.ref a1), .val (.ref ca)] [])) pre0 ?_
  show ∃ t o, Steps p.tables e below (s₁.setTop (mkF m 0 #[.val (.ref a1), .val (.ref ca)] [])) t ∧ _
  refine own_go (fun _ => XS.aloadN X0.here hx rfl (hb hby d2_0) rfl rfl) ?_
  refine own_go (fun _ => XS.aloadN X0.here hx rfl (hb hby d2_1) rfl rfl) ?_
  refine own_go (fun _ => XS.iconst X0.here hx rfl (hb hby d2_2)) ?_
  show ∃ t o, Steps p.tables e below (s₁.setTop (mkF m 3 #[.val (.ref a1), .val (.ref ca)] [(.int (0 : Int32)), (.ref ca), (.ref a1)])) t ∧ _
  refine own_go (fun _ => XS.aloadN X0.here hx rfl (hb hby d2_3) rfl rfl) ?_
  obtain ⟨cl5, Ar5, q5, S5, N5, H5, G5⟩ := id P4
  have ln5 : cl5.slots.size.toInt32 = (0 : Int32) := len_of S5 N5
  have al5 := X0.arraylength hx (by rw [e0]; exact Ar5.1) (State.isArrayOf_alike hZ.alike Ar5.2.1) (g := (mkF m 4 #[.val (.ref a1), .val (.ref ca)] [(.ref ca), (.int (0 : Int32)), (.ref ca), (.ref a1)])) rfl rfl (hb hby d2_4)
  rw [ln5] at al5
  refine own_go al5 ?_
  refine own_go (fun _ => XS.aconstNull X0.here hx rfl (hb hby d2_5)) ?_
  show ∃ t o, Steps p.tables e below (s₁.setTop (mkF m 6 #[.val (.ref a1), .val (.ref ca)] [.null, (.int (0 : Int32)), (.int (0 : Int32)), (.ref ca), (.ref a1)])) t ∧ _
  obtain ⟨_, _, ⟨T6, L6, k6, n6⟩, -, X6, hSn6, hgn6, ⟨Lc6, hQ6, l6, y6, z6, cr6⟩, st6⟩ := X0.specialBackS hx (y := (⟨"java/lang/String", "<init>", "([CIILjava/lang/Void;)V"⟩ : MethodName)) rfl hown (mvT hZ (hw _ (List.mem_of_getElem? (i := 11) rfl))) (mvT hZ (hw _ (List.mem_of_getElem? (i := 12) rfl))) (mvT hZ (hw _ (List.mem_of_getElem? (i := 14) rfl))) (by decide) (backOfSH (W := 0) (rmS4 l Z a0 hw [] a1 ca h0 n0 Z0 P1 P2 P3 OLD ga hEL) hZ (hw _ (List.mem_of_getElem? (i := 14) rfl)) (hw _ (List.mem_of_getElem? (i := 6) rfl)) (by decide) (by decide) hEL CH0.1) (g := (mkF m 6 #[.val (.ref a1), .val (.ref ca)] [.null, (.int (0 : Int32)), (.int (0 : Int32)), (.ref ca), (.ref a1)])) rfl (by rw [hml]; rfl) (Steps.refl _) (a := a1) (argsL := [(.ref ca), (.int (0 : Int32)), (.int (0 : Int32)), .null]) (rest := []) (lenOf pd__28_5bCIILjava_2flang_2fVoid_3b_29V rfl) rfl (by show 2 * 0 + _ ≤ _; exact Nat.le_of_eq rfl) (hb hby d2_6) (fun _ _ => ⟨rfl, e0, (by decide : 0 + 4 ≤ _), (by decide : 0 + 8 ≤ _)⟩)
  dsimp only [Pt.U, Pt.locs, Pt.cells, Pt.slots] at X6 l6 y6 z6 st6 hQ6 hSn6 hgn6 cr6
  rw [l6, y6, z6] at X6
  have hZ : Z.Warmed39 (s.setVm T6.vm).vm := State.Warmed39.trans (t := s.setVm s.vm) hZ hSn6.1
  have hown : (s.setVm T6.vm).vm.findClass "java/lang/String" = some m.cls := by rw [show (s.setVm T6.vm).vm = T6.vm from rfl, hSn6.1.alike.findClass]; exact hown
  have hS : s.Since T6.vm T6.heap.size := foldS (T := s₁) hS (Nat.zero_le _) hSn6 hgn6
  have X6 : Stand p l e _ (s.setVm T6.vm) m _ below meth c T6 _ _ _ := X6
  obtain ⟨tb_6, kb_6, rfl, Nq6, Kp6, G6_0, G6_1, G6_2, G6_3⟩ := hQ6
  have N6 := Fr.app N0 Nq6
  refine own_goT st6 ?_
  have le_6 : h0.size ≤ T6.heap.size := Kp6.1
  have K6 : Keep h0 T6.heap [a1] := Keep.trans (Keep.refl h0 [a1]) Kp6 (allS (Or.inl (List.mem_of_getElem? (i := 0) rfl)) all0)
  have CH7 := CHr.trans CH0 cr6
  have lt_tb_6 : tb_6 < T6.heap.size := (G6_3).lt
  show ∃ t o, Steps p.tables e below (T6.setTop (mkF m 9 #[.val (.ref a1), .val (.ref ca)] [])) t ∧ _
  obtain ⟨fs, hr, hrun, hended, hW⟩ := Jvm.Stand.leaveW X6 hS (by omega) (v := none) (fun _ => rfl)
  have CHz : CHr Z own_EL s.vm s.heap T6.vm T6.heap := by rw [hh]; exact CHr.trans CH7 (CHv.at X6 hZ hEL CH7.1)
  refine ⟨_, _, ?_, hrun, hended, _, _, rfl, ?_, CHz, ⟨hW.1, hW.2.1, hW.2.2.1, hW.2.2.2.mono (by decide) (by decide)⟩⟩
  · exact X6.returnOut hx Bd.returns (hb hby d2_9) hr
  · show Q_rmS1 Z _ _ _ h0 n0 _ T6.heap _
    exact ⟨tb_6, kb_6, rfl, N6, K6, G6_0, G6_1, G6_2, G6_3⟩
theorem ef_rmCe (m : MethodId) (x0 : Int32) : entryFrame m #[(.int x0)] 1 = mkF m 0 #[.val (.int x0)] [] := by first | (simp [entryFrame, mkF, argsToLocals, Value.category]; done) | rfl
theorem d36_0 : decode jdk_43_method_3_code 0 = .ok (.iload_n 0, 1) := by decide +kernel
theorem d36_1 : decode jdk_43_method_3_code 1 = .ok (.sipush 255, 3) := by decide +kernel
theorem d36_4 : decode jdk_43_method_3_code 4 = .ok (.if_icmp .gt 7, 3) := by decide +kernel
theorem d36_7 : decode jdk_43_method_3_code 7 = .ok (.iconst 1, 1) := by decide +kernel
theorem d36_8 : decode jdk_43_method_3_code 8 = .ok (.goto 4, 3) := by decide +kernel
theorem d36_12 : decode jdk_43_method_3_code 12 = .ok (.ireturn, 1) := by decide +kernel
def Q_rmCe (Z : State) (xc : Int32) (h0 : Heap) (n0 : Nat) (v : Option Value) (h : Heap) (L : List Loc) : Prop := v = some (.int (1 : Int32)) ∧ Fr n0 L ∧ h = h0
set_option maxRecDepth 65536 in
set_option maxHeartbeats 40000000 in
theorem rmCe (l : Launch) (Z : State) (a0 : Array Value) (hw : ∀ d ∈ tables_1, d.before a0 Z = true) (ws : List Jvm.Cond) (xc : Int32) (h0 : Heap) (n0 : Nat) (Z0 : n0 ≤ h0.size) (OLD : Old Z n0 h0) (rx : own_rg xc) :
    MetFree l (⟨"java/lang/StringLatin1", "canEncode", "(C)Z"⟩ : MethodName) (head1 (Jvm.Cond.code (⟨"java/lang/StringLatin1", "canEncode", "(C)Z"⟩ : MethodName) jdk_43_method_3_code 1 (some .boolean) :: ws) ({ frames := 0, cells := 0, slots := 0, locals := 0 } : Room)) (fun a U => a = #[(.int xc)] ∧ Z.Warmed39 U.vm ∧ U.heap = h0) (fun _ _ _ _ _ => True) (fun _ U o U' => ∃ v L, o = .returned v ∧ Q_rmCe Z xc h0 n0 v U'.heap L ∧ FrameEnd U o U' L ({ frames := 0, cells := 0, slots := 0, locals := 0 } : Room).cells ({ frames := 0, cells := 0, slots := 0, locals := 0 } : Room).slots) := by
  refine MetFree.of_bodySF (plainFor_of_name pn_java_lang_StringLatin1) hisR ?_
  intro p e s m args below meth c s₁ Bd hml0 hP hK
  obtain ⟨rfl, hZ, hh⟩ := hP
  have hx := Bd.exec
  have hby := Bd.bytes
  have hml : c.maxLocals = 1 := hml0
  have hown : s.vm.findClass "java/lang/StringLatin1" = some m.cls := findClass_of_methodNamed Bd.named
  have hnm := (name_of_methodNamed Bd.named Bd.method).1
  have X0 : Stand p l e ({ frames := 0, cells := 0, slots := 0, locals := 0 } : Room) s m #[(.int xc)] below meth c s₁ [] 0 0 := Stand.of_body Bd
  have e0 : s₁.heap = h0 := by rw [← hh, Bd.state]; rfl
  have N0 := Fr.nil n0
  have pre0 : ∀ t, Steps p.tables e below (s₁.setTop (mkF m 0 #[.val (.int xc)] [])) t → Steps p.tables e below (s₁.setTop (entryFrame m #[(.int xc)] 1)) t := fun t k => castTop (ef_rmCe m xc) k
  have oz := OLD.1
  refine own_go (B := s₁.setTop (mkF m 0 #[.val (.int xc)] [])) pre0 ?_
  show ∃ t o, Steps p.tables e below (s₁.setTop (mkF m 0 #[.val (.int xc)] [])) t ∧ _
  refine own_go (fun _ => XS.iloadN X0.here hx rfl (hb hby d36_0) rfl) ?_
  refine own_go (fun _ => XS.sipush X0.here hx rfl (hb hby d36_1)) ?_
  show ∃ t o, Steps p.tables e below (s₁.setTop (mkF m 4 #[.val (.int xc)] [(.int (255 : Int32)), (.int xc)])) t ∧ _
  have hd1 : ¬ ((255 : Int32) < xc) := rx.2
  refine own_go (fun _ => XS.icmpNo X0.here hx rfl (hb hby d36_4) rfl (flt hd1).2.2.1) ?_
  refine own_go (fun _ => XS.iconst X0.here hx rfl (hb hby d36_7)) ?_
  refine own_go (fun _ => XS.goto X0.here hx rfl (pc0 := 8) (pc' := 12) rfl (hb hby d36_8) (by decide) (by decide)) ?_
  show ∃ t o, Steps p.tables e below (s₁.setTop (mkF m 12 #[.val (.int xc)] [(.int (1 : Int32))])) t ∧ _
  obtain ⟨fs, hr, hrun, hended, hW, hsame⟩ := X0.leave (v := some (.int (1 : Int32))) (fun h => by rw [Bd.returns] at h; cases h)
  refine ⟨_, _, ?_, hrun, hended, _, _, rfl, ?_, ⟨_, rfl⟩, hW, hsame.mono (by decide) (by decide)⟩
  · exact retN X0 hx (t := .boolean) Bd.returns (by simp) (hb hby d36_12) hr
  · show Q_rmCe Z _ h0 n0 _ s₁.heap _
    rw [e0]
    exact ⟨rfl, N0, rfl⟩
theorem ef_rmTby (m : MethodId) (x0 : Int32) : entryFrame m #[(.int x0)] 1 = mkF m 0 #[.val (.int x0)] [] := by first | (simp [entryFrame, mkF, argsToLocals, Value.category]; done) | rfl
theorem d37_0 : decode jdk_43_method_46_code 0 = .ok (.iconst 1, 1) := by decide +kernel
theorem d37_1 : decode jdk_43_method_46_code 1 = .ok (.newarray .byte, 2) := by decide +kernel
theorem d37_3 : decode jdk_43_method_46_code 3 = .ok (.dup, 1) := by decide +kernel
theorem d37_4 : decode jdk_43_method_46_code 4 = .ok (.iconst 0, 1) := by decide +kernel
theorem d37_5 : decode jdk_43_method_46_code 5 = .ok (.iload_n 0, 1) := by decide +kernel
theorem d37_6 : decode jdk_43_method_46_code 6 = .ok (.i2b, 1) := by decide +kernel
theorem d37_7 : decode jdk_43_method_46_code 7 = .ok (.bastore, 1) := by decide +kernel
theorem d37_8 : decode jdk_43_method_46_code 8 = .ok (.areturn, 1) := by decide +kernel
def Q_rmTby (Z : State) (xc : Int32) (h0 : Heap) (n0 : Nat) (v : Option Value) (h : Heap) (L : List Loc) : Prop := ∃ (nb : Nat), ∃ (kn : ClassId), v = some (.ref nb) ∧ Fr n0 L ∧ Keep h0 h [] ∧ Arv Z h nb kn .byte (1 : Int32) [(.int (xc.toInt8.toInt32))] (.int (0 : Int32)) ∧ (h0.size ≤ nb)
set_option maxRecDepth 65536 in
set_option maxHeartbeats 40000000 in
theorem rmTby (l : Launch) (Z : State) (a0 : Array Value) (hw : ∀ d ∈ tables_1, d.before a0 Z = true) (ws : List Jvm.Cond) (xc : Int32) (h0 : Heap) (n0 : Nat) (Z0 : n0 ≤ h0.size) (OLD : Old Z n0 h0) :
    MetFree l (⟨"java/lang/StringLatin1", "toBytes", "(C)[B"⟩ : MethodName) (head1 (Jvm.Cond.code (⟨"java/lang/StringLatin1", "toBytes", "(C)[B"⟩ : MethodName) jdk_43_method_46_code 1 (some (.array .byte)) :: ws) ({ frames := 0, cells := 1, slots := 1, locals := 0 } : Room)) (fun a U => a = #[(.int xc)] ∧ Z.Warmed39 U.vm ∧ U.heap = h0) (fun _ _ _ _ _ => True) (fun _ U o U' => ∃ v L, o = .returned v ∧ Q_rmTby Z xc h0 n0 v U'.heap L ∧ FrameEnd U o U' L ({ frames := 0, cells := 1, slots := 1, locals := 0 } : Room).cells ({ frames := 0, cells := 1, slots := 1, locals := 0 } : Room).slots) := by
  refine MetFree.of_bodySF (plainFor_of_name pn_java_lang_StringLatin1) hisR ?_
  intro p e s m args below meth c s₁ Bd hml0 hP hK
  obtain ⟨rfl, hZ, hh⟩ := hP
  have hx := Bd.exec
  have hby := Bd.bytes
  have hml : c.maxLocals = 1 := hml0
  have hown : s.vm.findClass "java/lang/StringLatin1" = some m.cls := findClass_of_methodNamed Bd.named
  have hnm := (name_of_methodNamed Bd.named Bd.method).1
  have X0 : Stand p l e ({ frames := 0, cells := 1, slots := 1, locals := 0 } : Room) s m #[(.int xc)] below meth c s₁ [] 0 0 := Stand.of_body Bd
  have e0 : s₁.heap = h0 := by rw [← hh, Bd.state]; rfl
  have N0 := Fr.nil n0
  have pre0 : ∀ t, Steps p.tables e below (s₁.setTop (mkF m 0 #[.val (.int xc)] [])) t → Steps p.tables e below (s₁.setTop (entryFrame m #[(.int xc)] 1)) t := fun t k => castTop (ef_rmTby m xc) k
  have oz := OLD.1
  refine own_go (B := s₁.setTop (mkF m 0 #[.val (.int xc)] [])) pre0 ?_
  show ∃ t o, Steps p.tables e below (s₁.setTop (mkF m 0 #[.val (.int xc)] [])) t ∧ _
  refine own_go (fun _ => XS.iconst X0.here hx rfl (hb hby d37_0)) ?_
  show ∃ t o, Steps p.tables e below (s₁.setTop (mkF m 1 #[.val (.int xc)] [(.int (1 : Int32))])) t ∧ _
  obtain ⟨T1, h1, k1, X1, e1, E1, A1, st1⟩ := newP X0 hx hZ (hw _ (List.mem_of_getElem? (i := 19) rfl)) e0 (g := (mkF m 1 #[.val (.int xc)] [(.int (1 : Int32))])) rfl (hb hby d37_1) rfl (by decide) (cap := 1) (by decide) (by decide) (by decide) (by decide)
  obtain ⟨b1, g1⟩ : ∃ z, z = h0.size := ⟨_, rfl⟩
  rw [← g1] at A1 st1
  refine own_go st1 ?_
  have le_1 : h0.size ≤ h1.size := E1.1
  have lt_b1 : b1 < h1.size := A1.lt
  have V_b1 : Arv Z h1 b1 k1 .byte (1 : Int32) [(.int (0 : Int32))] (.int (0 : Int32)) := (Arv.new A1 (by decide)).pad (pad_rep [] (.int (0 : Int32)) 1)
  have K1 : Keep h0 h1 [] := Keep.ext (Keep.refl h0 []) E1
  refine own_go (fun _ => XS.dup X1.here hx rfl (hb hby d37_3) rfl rfl) ?_
  refine own_go (fun _ => XS.iconst X1.here hx rfl (hb hby d37_4)) ?_
  show ∃ t o, Steps p.tables e below (T1.setTop (mkF m 5 #[.val (.int xc)] [(.int (0 : Int32)), (.ref b1), (.ref b1)])) t ∧ _
  refine own_go (fun _ => XS.iloadN X1.here hx rfl (hb hby d37_5) rfl) ?_
  refine own_go (fun _ => XS.i2b X1.here hx rfl (hb hby d37_6) rfl) ?_
  obtain ⟨cl2, Ar2, q2, S2, N2, H2, G2⟩ := id V_b1
  have hin2 : ¬ ((0 : Int32) < 0 ∨ cl2.slots.size ≤ ((0 : Int32)).toNatClampNeg) := inb_of S2 ⟨by decide, by decide⟩
  obtain ⟨T3, h3, X3, e3, W3, st3⟩ := stB X1 hx hZ e1 Ar2 (j := (0 : Int32)) hin2 (g := (mkF m 7 #[.val (.int xc)] [(.int (xc.toInt8.toInt32)), (.int (0 : Int32)), (.ref b1), (.ref b1)])) rfl rfl (hb hby d37_7)
  refine own_go st3 ?_
  have ge4 : n0 ≤ b1 := by omega
  have le_3 : h1.size ≤ h3.size := Nat.le_of_eq W3.size.symm
  have sz5 : h0.size ≤ b1 := by omega
  have K3 : Keep h0 h3 [] := Keep.wr K1 W3 (Or.inr sz5)
  have N3 := Fr.snoc X3 N0 ge4
  have V3 : Arv Z h3 b1 k1 .byte (1 : Int32) [(.int (xc.toInt8.toInt32).toInt8.toInt32)] (.int (0 : Int32)) := Arv.set Ar2 q2 S2 N2 H2 G2 (fits_nar_byte _) W3 0 rfl (Nat.le_of_ble_eq_true rfl)
  have Vz : Arv Z h3 b1 k1 .byte (1 : Int32) [(.int (xc.toInt8.toInt32))] (.int (0 : Int32)) := by have q := V3; rw [own_bb] at q; exact q
  show ∃ t o, Steps p.tables e below (T3.setTop (mkF m 8 #[.val (.int xc)] [(.ref b1)])) t ∧ _
  obtain ⟨fs, hr, hrun, hended, hW, hsame⟩ := X3.leave (v := some (.ref b1)) (fun h => by rw [Bd.returns] at h; cases h)
  refine ⟨_, _, ?_, hrun, hended, _, _, rfl, ?_, ⟨_, rfl⟩, hW, hsame.mono (by decide) (by decide)⟩
  · jvm_step X3.here [X3.here.top, hx, (hb hby d37_8), X3.method', Bd.returns, Value.isRef, FieldType.isReference]
    first | (intro acts; rw [hr _ acts rfl rfl rfl]) | rw [hr _ _ rfl rfl rfl]
    exact Steps.refl _
  · show Q_rmTby Z _ h0 n0 _ T3.heap _
    rw [e3]
    exact ⟨b1, k1, rfl, N3, K3, Vz, (by omega)⟩
theorem ef_rmIbb (m : MethodId) (x0 : Nat) (x1 : Nat) (x2 : Int32) : entryFrame m #[(.ref x0), (.ref x1), (.int x2)] 3 = mkF m 0 #[.val (.ref x0), .val (.ref x1), .val (.int x2)] [] := by first | (simp [entryFrame, mkF, argsToLocals, Value.category]; done) | rfl
theorem d38_0 : decode jdk_42_method_151_code 0 = .ok (.aload_n 0, 1) := by decide +kernel
theorem d38_1 : decode jdk_42_method_151_code 1 = .ok (.invokespecial 1, 3) := by decide +kernel
theorem d38_4 : decode jdk_42_method_151_code 4 = .ok (.aload_n 0, 1) := by decide +kernel
theorem d38_5 : decode jdk_42_method_151_code 5 = .ok (.aload_n 1, 1) := by decide +kernel
theorem d38_6 : decode jdk_42_method_151_code 6 = .ok (.putfield 9, 3) := by decide +kernel
theorem d38_9 : decode jdk_42_method_151_code 9 = .ok (.aload_n 0, 1) := by decide +kernel
theorem d38_10 : decode jdk_42_method_151_code 10 = .ok (.iload_n 2, 1) := by decide +kernel
theorem d38_11 : decode jdk_42_method_151_code 11 = .ok (.putfield 15, 3) := by decide +kernel
theorem d38_14 : decode jdk_42_method_151_code 14 = .ok (.return_, 1) := by decide +kernel
def Q_rmIbb (Z : State) (a1 : Nat) (nb : Nat) (kn : ClassId) (xc : Int32) (h0 : Heap) (n0 : Nat) (v : Option Value) (h : Heap) (L : List Loc) : Prop := v = none ∧ Fr n0 L ∧ Keep h0 h [a1] ∧ Exa Z h a1 "java/lang/String" ∧ Fld Z h a1 "java/lang/String" "value" "[B" (.ref nb) ∧ Fld Z h a1 "java/lang/String" "coder" "B" (.int (0 : Int32)) ∧ Arv Z h nb kn .byte (1 : Int32) [(.int (xc.toInt8.toInt32))] (.int (0 : Int32))
set_option maxRecDepth 65536 in
set_option maxHeartbeats 40000000 in
theorem rmIbb (l : Launch) (Z : State) (a0 : Array Value) (hw : ∀ d ∈ tables_1, d.before a0 Z = true) (ws : List Jvm.Cond) (a1 : Nat) (nb : Nat) (kn : ClassId) (xc : Int32) (h0 : Heap) (n0 : Nat) (Z0 : n0 ≤ h0.size) (P1 : Exa Z h0 a1 "java/lang/String") (P2 : Fld Z h0 a1 "java/lang/String" "value" "[B" .null) (P3 : Fld Z h0 a1 "java/lang/String" "coder" "B" (.int (0 : Int32))) (P4 : Arv Z h0 nb kn .byte (1 : Int32) [(.int (xc.toInt8.toInt32))] (.int (0 : Int32))) (OLD : Old Z n0 h0) (ga : n0 ≤ a1) (hne : a1 ≠ nb) :
    MetFree l (⟨"java/lang/String", "<init>", "([BB)V"⟩ : MethodName) (head1 (Jvm.Cond.code (⟨"java/lang/String", "<init>", "([BB)V"⟩ : MethodName) jdk_42_method_151_code 3 none :: ws) ({ frames := 1, cells := 0, slots := 0, locals := 12 } : Room)) (fun a U => a = #[(.ref a1), (.ref nb), (.int (0 : Int32))] ∧ Z.Warmed39 U.vm ∧ U.heap = h0) (fun _ _ _ _ _ => True) (fun _ U o U' => ∃ v L, o = .returned v ∧ Q_rmIbb Z a1 nb kn xc h0 n0 v U'.heap L ∧ FrameEnd U o U' L ({ frames := 1, cells := 0, slots := 0, locals := 12 } : Room).cells ({ frames := 1, cells := 0, slots := 0, locals := 12 } : Room).slots) := by
  refine MetFree.of_bodySF (plainFor_of_name pn_java_lang_String) hisR ?_
  intro p e s m args below meth c s₁ Bd hml0 hP hK
  obtain ⟨rfl, hZ, hh⟩ := hP
  have hx := Bd.exec
  have hby := Bd.bytes
  have hml : c.maxLocals = 3 := hml0
  have hown : s.vm.findClass "java/lang/String" = some m.cls := findClass_of_methodNamed Bd.named
  have hnm := (name_of_methodNamed Bd.named Bd.method).1
  have X0 : Stand p l e ({ frames := 1, cells := 0, slots := 0, locals := 12 } : Room) s m #[(.ref a1), (.ref nb), (.int (0 : Int32))] below meth c s₁ [] 0 0 := Stand.of_body Bd
  have e0 : s₁.heap = h0 := by rw [← hh, Bd.state]; rfl
  have N0 := Fr.nil n0
  have pre0 : ∀ t, Steps p.tables e below (s₁.setTop (mkF m 0 #[.val (.ref a1), .val (.ref nb), .val (.int (0 : Int32))] [])) t → Steps p.tables e below (s₁.setTop (entryFrame m #[(.ref a1), (.ref nb), (.int (0 : Int32))] 3)) t := fun t k => castTop (ef_rmIbb m a1 nb (0 : Int32)) k
  have oz := OLD.1
  have lt_a1 : a1 < h0.size := P1.lt
  have lt_nb : nb < h0.size := P4.lt
  refine own_go (B := s₁.setTop (mkF m 0 #[.val (.ref a1), .val (.ref nb), .val (.int (0 : Int32))] [])) pre0 ?_
  show ∃ t o, Steps p.tables e below (s₁.setTop (mkF m 0 #[.val (.ref a1), .val (.ref nb), .val (.int (0 : Int32))] [])) t ∧ _
  refine own_go (fun _ => XS.aloadN X0.here hx rfl (hb hby d38_0) rfl rfl) ?_
  show ∃ t o, Steps p.tables e below (s₁.setTop (mkF m 1 #[.val (.ref a1), .val (.ref nb), .val (.int (0 : Int32))] [(.ref a1)])) t ∧ _
  obtain ⟨T5, X5, e5, st5⟩ := initO X0 hx hZ hown (hw _ (List.mem_of_getElem? (i := 15) rfl)) (hw _ (List.mem_of_getElem? (i := 16) rfl)) (hw _ (List.mem_of_getElem? (i := 17) rfl)) e0 (g := (mkF m 1 #[.val (.ref a1), .val (.ref nb), .val (.int (0 : Int32))] [(.ref a1)])) rfl (by rw [hml]; rfl) rfl (hb hby d38_1) (by decide) (W := 0) (by show 2 * 0 + _ ≤ _; exact Nat.le_of_eq rfl) (by decide)
  refine own_go st5 ?_
  refine own_go (fun _ => XS.aloadN X5.here hx rfl (hb hby d38_4) rfl rfl) ?_
  refine own_go (fun _ => XS.aloadN X5.here hx rfl (hb hby d38_5) rfl rfl) ?_
  show ∃ t o, Steps p.tables e below (T5.setTop (mkF m 6 #[.val (.ref a1), .val (.ref nb), .val (.int (0 : Int32))] [(.ref nb), (.ref a1)])) t ∧ _
  obtain ⟨T6, h6, X6, e6, W6, st6⟩ := putF X5 hx hZ hown (host := "") (Or.inl (hw _ (List.mem_of_getElem? (i := 24) rfl))) Via.refl e5 P2 P1 (Or.inr ⟨(hw _ (List.mem_of_getElem? (i := 20) rfl)), rfl, hnm⟩) (hw _ (List.mem_of_getElem? (i := 5) rfl)) (ty := (.array .byte)) (by decide) rfl rfl (g := (mkF m 6 #[.val (.ref a1), .val (.ref nb), .val (.int (0 : Int32))] [(.ref nb), (.ref a1)])) rfl rfl (hb hby d38_6)
  refine own_go st6 ?_
  have le_6 : h0.size ≤ h6.size := Nat.le_of_eq W6.size.symm
  have K6 : Keep h0 h6 [a1] := Keep.wr (Keep.refl h0 [a1]) W6 (Or.inl (List.mem_of_getElem? (i := 0) rfl))
  have N6 := Fr.snoc X6 N0 ga
  have Fw6 := Fld.same W6 P2
  refine own_go (fun _ => XS.aloadN X6.here hx rfl (hb hby d38_9) rfl rfl) ?_
  refine own_go (fun _ => XS.iloadN X6.here hx rfl (hb hby d38_10) rfl) ?_
  show ∃ t o, Steps p.tables e below (T6.setTop (mkF m 11 #[.val (.ref a1), .val (.ref nb), .val (.int (0 : Int32))] [(.int (0 : Int32)), (.ref a1)])) t ∧ _
  have F7 : Exa Z h6 a1 "java/lang/String" := (Exa.wr W6 P1)
  have F8 : Fld Z h6 a1 "java/lang/String" "coder" "B" (.int (0 : Int32)) := (Fld.other W6 P3 (Or.inr (slot_ne (a0 := a0) (Or.inr (hw _ (List.mem_of_getElem? (i := 21) rfl))) (Or.inr (hw _ (List.mem_of_getElem? (i := 20) rfl))) (by decide) (t := .byte) (t' := (.array .byte)) (by decide) (by decide))))
  obtain ⟨T9, h9, X9, e9, W9, st9⟩ := putFN X6 hx hZ hown (hw _ (List.mem_of_getElem? (i := 25) rfl)) Via.refl e6 F8 F7 (Or.inr ⟨(hw _ (List.mem_of_getElem? (i := 21) rfl)), rfl, hnm⟩) (hw _ (List.mem_of_getElem? (i := 5) rfl)) (ty := .byte) (v' := (.int (0 : Int32).toInt8.toInt32)) (by decide) rfl (fits_nar_byte _) (g := (mkF m 11 #[.val (.ref a1), .val (.ref nb), .val (.int (0 : Int32))] [(.int (0 : Int32)), (.ref a1)])) rfl rfl (hb hby d38_11)
  refine own_go st9 ?_
  have le_9 : h6.size ≤ h9.size := Nat.le_of_eq W9.size.symm
  have K9 : Keep h0 h9 [a1] := Keep.wr K6 W9 (Or.inl (List.mem_of_getElem? (i := 0) rfl))
  have N9 := Fr.snoc X9 N6 ga
  have Fw9 := Fld.same W9 F8
  have Fcz : Fld Z h9 a1 "java/lang/String" "coder" "B" (.int (0 : Int32)) := Fw9
  show ∃ t o, Steps p.tables e below (T9.setTop (mkF m 14 #[.val (.ref a1), .val (.ref nb), .val (.int (0 : Int32))] [])) t ∧ _
  have F10 : Exa Z h9 a1 "java/lang/String" := (Exa.wr W9 F7)
  have F11 : Fld Z h9 a1 "java/lang/String" "value" "[B" (.ref nb) := (Fld.other W9 Fw6 (Or.inr (slot_ne (a0 := a0) (Or.inr (hw _ (List.mem_of_getElem? (i := 20) rfl))) (Or.inr (hw _ (List.mem_of_getElem? (i := 21) rfl))) (by decide) (t := (.array .byte)) (t' := .byte) (by decide) (by decide))))
  have ne12 : nb ≠ a1 := own_ne (by omega)
  have F13 : Arv Z h9 nb kn .byte (1 : Int32) [(.int (xc.toInt8.toInt32))] (.int (0 : Int32)) := (Arv.other (Arv.other P4 W6 ne12) W9 ne12)
  obtain ⟨fs, hr, hrun, hended, hW, hsame⟩ := X9.leave (v := none) (fun _ => rfl)
  refine ⟨_, _, ?_, hrun, hended, _, _, rfl, ?_, ⟨_, rfl⟩, hW, hsame.mono (by decide) (by decide)⟩
  · exact X9.returnOut hx Bd.returns (hb hby d38_14) hr
  · show Q_rmIbb Z _ _ _ _ h0 n0 _ T9.heap _
    rw [e9]
    exact ⟨rfl, N9, K9, F10, F11, Fcz, F13⟩
theorem ef_rmVo (m : MethodId) (x0 : Int32) : entryFrame m #[(.int x0)] 1 = mkF m 0 #[.val (.int x0)] [] := by first | (simp [entryFrame, mkF, argsToLocals, Value.category]; done) | rfl
theorem d35_0 : decode jdk_42_method_139_code 0 = .ok (.getstatic 38, 3) := by decide +kernel
theorem d35_3 : decode jdk_42_method_139_code 3 = .ok (.ifCond .eq 23, 3) := by decide +kernel
theorem d35_6 : decode jdk_42_method_139_code 6 = .ok (.iload_n 0, 1) := by decide +kernel
theorem d35_7 : decode jdk_42_method_139_code 7 = .ok (.invokestatic 1015, 3) := by decide +kernel
theorem pd__28C_29Z : parseMethodDescriptor "(C)Z" = some ⟨[.char], some .boolean⟩ := by decide +kernel
theorem d35_10 : decode jdk_42_method_139_code 10 = .ok (.ifCond .eq 16, 3) := by decide +kernel
theorem d35_13 : decode jdk_42_method_139_code 13 = .ok (.new 10, 3) := by decide +kernel
theorem d35_16 : decode jdk_42_method_139_code 16 = .ok (.dup, 1) := by decide +kernel
theorem d35_17 : decode jdk_42_method_139_code 17 = .ok (.iload_n 0, 1) := by decide +kernel
theorem d35_18 : decode jdk_42_method_139_code 18 = .ok (.invokestatic 1018, 3) := by decide +kernel
theorem pd__28C_29_5bB : parseMethodDescriptor "(C)[B" = some ⟨[.char], some (.array .byte)⟩ := by decide +kernel
theorem d35_21 : decode jdk_42_method_139_code 21 = .ok (.iconst 0, 1) := by decide +kernel
theorem d35_22 : decode jdk_42_method_139_code 22 = .ok (.invokespecial 209, 3) := by decide +kernel
theorem pd__28_5bBB_29V : parseMethodDescriptor "([BB)V" = some ⟨[(.array .byte), .byte], none⟩ := by decide +kernel
theorem d35_25 : decode jdk_42_method_139_code 25 = .ok (.areturn, 1) := by decide +kernel
def Q_rmVo (Z : State) (xc : Int32) (zc : Int32) (h0 : Heap) (n0 : Nat) (v : Option Value) (h : Heap) (L : List Loc) : Prop := ∃ (b : Nat), ∃ (tb : Nat), ∃ (kb : ClassId), v = some (.ref b) ∧ Fr n0 L ∧ Keep h0 h [] ∧ Exa Z h b "java/lang/String" ∧ Fld Z h b "java/lang/String" "value" "[B" (.ref tb) ∧ Fld Z h b "java/lang/String" "coder" "B" (.int (0 : Int32)) ∧ Arv Z h tb kb .byte (1 : Int32) [(.int (xc.toInt8.toInt32))] (.int (0 : Int32)) ∧ (h0.size ≤ b)
set_option maxRecDepth 65536 in
set_option maxHeartbeats 40000000 in
theorem rmVo (l : Launch) (Z : State) (a0 : Array Value) (hw : ∀ d ∈ tables_1, d.before a0 Z = true) (ws : List Jvm.Cond) (xc : Int32) (zc : Int32) (h0 : Heap) (n0 : Nat) (Z0 : n0 ≤ h0.size) (OLD : Old Z n0 h0) (P1 : Sta Z Z.heap "java/lang/String" "COMPACT_STRINGS" "Z" (.int zc)) (hzc : ¬ (zc = (0 : Int32))) (rx : own_rg xc) :
    MetFree l (⟨"java/lang/String", "valueOf", "(C)Ljava/lang/String;"⟩ : MethodName) (head1 (Jvm.Cond.code (⟨"java/lang/String", "valueOf", "(C)Ljava/lang/String;"⟩ : MethodName) jdk_42_method_139_code 1 (some (.object "java/lang/String")) :: ws) ({ frames := 2, cells := 2, slots := 5, locals := 27 } : Room)) (fun a U => a = #[(.int xc)] ∧ Z.Warmed39 U.vm ∧ U.heap = h0) (fun _ _ _ _ _ => True) (fun _ U o U' => ∃ v L, o = .returned v ∧ Q_rmVo Z xc zc h0 n0 v U'.heap L ∧ FrameEnd U o U' L ({ frames := 2, cells := 2, slots := 5, locals := 27 } : Room).cells ({ frames := 2, cells := 2, slots := 5, locals := 27 } : Room).slots) := by
  refine MetFree.of_bodySF (plainFor_of_name pn_java_lang_String) hisR ?_
  intro p e s m args below meth c s₁ Bd hml0 hP hK
  obtain ⟨rfl, hZ, hh⟩ := hP
  have hx := Bd.exec
  have hby := Bd.bytes
  have hml : c.maxLocals = 1 := hml0
  have hown : s.vm.findClass "java/lang/String" = some m.cls := findClass_of_methodNamed Bd.named
  have hnm := (name_of_methodNamed Bd.named Bd.method).1
  have X0 : Stand p l e ({ frames := 2, cells := 2, slots := 5, locals := 27 } : Room) s m #[(.int xc)] below meth c s₁ [] 0 0 := Stand.of_body Bd
  have e0 : s₁.heap = h0 := by rw [← hh, Bd.state]; rfl
  have N0 := Fr.nil n0
  have pre0 : ∀ t, Steps p.tables e below (s₁.setTop (mkF m 0 #[.val (.int xc)] [])) t → Steps p.tables e below (s₁.setTop (entryFrame m #[(.int xc)] 1)) t := fun t k => castTop (ef_rmVo m xc) k
  have oz := OLD.1
  refine own_go (B := s₁.setTop (mkF m 0 #[.val (.int xc)] [])) pre0 ?_
  show ∃ t o, Steps p.tables e below (s₁.setTop (mkF m 0 #[.val (.int xc)] [])) t ∧ _
  obtain ⟨T2, X2, e2, st2⟩ := getS2 X0 hx hZ hown (host := "") (Or.inl (hw _ (List.mem_of_getElem? (i := 87) rfl))) Via.refl e0 (Sta.ext OLD.2 P1) (g := (mkF m 0 #[.val (.int xc)] [])) rfl (hb hby d35_0)
  refine own_go st2 ?_
  show ∃ t o, Steps p.tables e below (T2.setTop (mkF m 3 #[.val (.int xc)] [(.int zc)])) t ∧ _
  refine own_go (fun _ => XS.ifNo X2.here hx rfl (hb hby d35_3) rfl ((if0 _ _).trans (feq hzc).1)) ?_
  refine own_go (fun _ => XS.iloadN X2.here hx rfl (hb hby d35_6) rfl) ?_
  show ∃ t o, Steps p.tables e below (T2.setTop (mkF m 7 #[.val (.int xc)] [(.int xc)])) t ∧ _
  obtain ⟨_, _, ⟨T3, L3, k3, n3⟩, -, X3, ⟨Lc3, hQ3, l3, y3, z3⟩, st3⟩ := Jvm.LawKit.callS X2 hx (y := (⟨"java/lang/StringLatin1", "canEncode", "(C)Z"⟩ : MethodName)) hown (mvT hZ (hw _ (List.mem_of_getElem? (i := 190) rfl))) (mvT hZ (hw _ (List.mem_of_getElem? (i := 191) rfl))) (mvT hZ (hw _ (List.mem_of_getElem? (i := 177) rfl))) (mvT hZ (hw _ (List.mem_of_getElem? (i := 192) rfl))) (by decide) (backOf (W := 0) (rmCe l Z a0 hw [] xc h0 n0 Z0 OLD rx) hZ (hw _ (List.mem_of_getElem? (i := 192) rfl)) (hw _ (List.mem_of_getElem? (i := 177) rfl)) (by decide) (by decide)) (g := (mkF m 7 #[.val (.int xc)] [(.int xc)])) rfl (by rw [hml]; rfl) (argsL := [(.int xc)]) (rest := []) (lenOf pd__28C_29Z rfl) rfl (by show 2 * 0 + _ ≤ _; exact Nat.le_of_eq rfl) (hb hby d35_7) (fun _ _ => ⟨rfl, e2, (by decide : 0 + 0 ≤ _), (by decide : 0 + 0 ≤ _)⟩)
  dsimp only [Pt.U, Pt.locs, Pt.cells, Pt.slots] at X3 l3 y3 z3 st3 hQ3
  rw [l3, y3, z3] at X3
  obtain ⟨rfl, Nq3, e3⟩ := hQ3
  have N3 := Fr.app N0 Nq3
  refine own_go st3 ?_
  show ∃ t o, Steps p.tables e below (T3.setTop (mkF m 10 #[.val (.int xc)] [(.int (1 : Int32))])) t ∧ _
  refine own_go (fun _ => XS.ifNo X3.here hx rfl (hb hby d35_10) rfl ((if0 _ _).trans (feq (by decide : ¬ ((1 : Int32) = (0 : Int32)))).1)) ?_
  show ∃ t o, Steps p.tables e below (T3.setTop (mkF m 13 #[.val (.int xc)] [])) t ∧ _
  obtain ⟨T4, h4, X4, e4, E4, A4, D4, -, st4⟩ := newO X3 hx hZ hown (hw _ (List.mem_of_getElem? (i := 193) rfl)) (hw _ (List.mem_of_getElem? (i := 5) rfl)) (hw _ (List.mem_of_getElem? (i := 6) rfl)) e3 (g := (mkF m 13 #[.val (.int xc)] [])) rfl (hb hby d35_13) (by decide) (by decide)
  obtain ⟨b4, g4⟩ : ∃ z, z = h0.size := ⟨_, rfl⟩
  rw [← g4] at A4 D4 st4
  refine own_go st4 ?_
  have le_4 : h0.size ≤ h4.size := E4.1
  have lt_b4 : b4 < h4.size := A4.lt
  have F_value_b4 : Fld Z h4 b4 "java/lang/String" "value" "[B" .null := D4 (Or.inr (hw _ (List.mem_of_getElem? (i := 20) rfl))) (ty := (.array .byte)) (by decide)
  have F_coder_b4 : Fld Z h4 b4 "java/lang/String" "coder" "B" (.int (0 : Int32)) := D4 (Or.inr (hw _ (List.mem_of_getElem? (i := 21) rfl))) (ty := .byte) (by decide)
  have K4 : Keep h0 h4 [] := Keep.ext (Keep.refl h0 []) E4
  refine own_go (fun _ => XS.dup X4.here hx rfl (hb hby d35_16) rfl rfl) ?_
  refine own_go (fun _ => XS.iloadN X4.here hx rfl (hb hby d35_17) rfl) ?_
  show ∃ t o, Steps p.tables e below (T4.setTop (mkF m 18 #[.val (.int xc)] [(.int xc), (.ref b4), (.ref b4)])) t ∧ _
  have F5 : Old Z n0 h4 := (OLD.ext E4)
  have zl6 : n0 ≤ h4.size := by omega
  obtain ⟨_, _, ⟨T7, L7, k7, n7⟩, -, X7, ⟨Lc7, hQ7, l7, y7, z7⟩, st7⟩ := Jvm.LawKit.callS X4 hx (y := (⟨"java/lang/StringLatin1", "toBytes", "(C)[B"⟩ : MethodName)) hown (mvT hZ (hw _ (List.mem_of_getElem? (i := 194) rfl))) (mvT hZ (hw _ (List.mem_of_getElem? (i := 195) rfl))) (mvT hZ (hw _ (List.mem_of_getElem? (i := 177) rfl))) (mvT hZ (hw _ (List.mem_of_getElem? (i := 196) rfl))) (by decide) (backOf (W := 2) (rmTby l Z a0 hw [] xc h4 n0 zl6 F5) hZ (hw _ (List.mem_of_getElem? (i := 196) rfl)) (hw _ (List.mem_of_getElem? (i := 177) rfl)) (by decide) (by decide)) (g := (mkF m 18 #[.val (.int xc)] [(.int xc), (.ref b4), (.ref b4)])) rfl (by rw [hml]; rfl) (argsL := [(.int xc)]) (rest := [(.ref b4), (.ref b4)]) (lenOf pd__28C_29_5bB rfl) rfl (by show 2 * 0 + _ ≤ _; exact Nat.le_of_eq rfl) (hb hby d35_18) (fun _ _ => ⟨rfl, e4, (by decide : 1 + 1 ≤ _), (by decide : 4 + 1 ≤ _)⟩)
  dsimp only [Pt.U, Pt.locs, Pt.cells, Pt.slots] at X7 l7 y7 z7 st7 hQ7
  rw [l7, y7, z7] at X7
  obtain ⟨nb_7, kn_7, rfl, Nq7, Kp7, G7_0, H7_0⟩ := hQ7
  have N7 := Fr.app N3 Nq7
  refine own_go st7 ?_
  have le_7 : h4.size ≤ T7.heap.size := Kp7.1
  have K7 : Keep h0 T7.heap [] := Keep.trans K4 Kp7 all0
  have lt_nb_7 : nb_7 < T7.heap.size := (G7_0).lt
  refine own_go (fun _ => XS.iconst X7.here hx rfl (hb hby d35_21)) ?_
  show ∃ t o, Steps p.tables e below (T7.setTop (mkF m 22 #[.val (.int xc)] [(.int (0 : Int32)), (.ref nb_7), (.ref b4), (.ref b4)])) t ∧ _
  have F8 : Exa Z T7.heap b4 "java/lang/String" := (Exa.keep A4 Kp7)
  have F9 : Fld Z T7.heap b4 "java/lang/String" "value" "[B" .null := (Fld.keep F_value_b4 Kp7 nin0)
  have F10 : Fld Z T7.heap b4 "java/lang/String" "coder" "B" (.int (0 : Int32)) := (Fld.keep F_coder_b4 Kp7 nin0)
  have F11 : Old Z n0 T7.heap := (Old.keep F5 Kp7 all0)
  have ge12 : n0 ≤ b4 := by omega
  have ne13 : b4 ≠ nb_7 := own_ne (by omega)
  have zl14 : n0 ≤ T7.heap.size := by omega
  obtain ⟨_, _, ⟨T15, L15, k15, n15⟩, -, X15, ⟨Lc15, hQ15, l15, y15, z15⟩, st15⟩ := X7.specialBack hx (y := (⟨"java/lang/String", "<init>", "([BB)V"⟩ : MethodName)) rfl hown (mvT hZ (hw _ (List.mem_of_getElem? (i := 197) rfl))) (mvT hZ (hw _ (List.mem_of_getElem? (i := 198) rfl))) (mvT hZ (hw _ (List.mem_of_getElem? (i := 199) rfl))) (by decide) (backOf (W := 1) (rmIbb l Z a0 hw [] b4 nb_7 kn_7 xc T7.heap n0 zl14 F8 F9 F10 G7_0 F11 ge12 ne13) hZ (hw _ (List.mem_of_getElem? (i := 199) rfl)) (hw _ (List.mem_of_getElem? (i := 6) rfl)) (by decide) (by decide)) (g := (mkF m 22 #[.val (.int xc)] [(.int (0 : Int32)), (.ref nb_7), (.ref b4), (.ref b4)])) rfl (by rw [hml]; rfl) (Steps.refl _) (a := b4) (argsL := [(.ref nb_7), (.int (0 : Int32))]) (rest := [(.ref b4)]) (lenOf pd__28_5bBB_29V rfl) rfl (by show 2 * 0 + _ ≤ _; exact Nat.le_of_eq rfl) (hb hby d35_22) (fun _ _ => ⟨rfl, rfl, (by decide : 2 + 0 ≤ _), (by decide : 5 + 0 ≤ _)⟩)
  dsimp only [Pt.U, Pt.locs, Pt.cells, Pt.slots] at X15 l15 y15 z15 st15 hQ15
  rw [l15, y15, z15] at X15
  obtain ⟨rfl, Nq15, Kp15, G15_0, G15_1, G15_2, G15_3⟩ := hQ15
  have N15 := Fr.app N7 Nq15
  refine own_goT st15 ?_
  have le_15 : T7.heap.size ≤ T15.heap.size := Kp15.1
  have sz16 : h0.size ≤ b4 := by omega
  have K15 : Keep h0 T15.heap [] := Keep.trans K7 Kp15 (allS (Or.inr sz16) all0)
  show ∃ t o, Steps p.tables e below (T15.setTop (mkF m 25 #[.val (.int xc)] [(.ref b4)])) t ∧ _
  obtain ⟨fs, hr, hrun, hended, hW, hsame⟩ := X15.leave (v := some (.ref b4)) (fun h => by rw [Bd.returns] at h; cases h)
  refine ⟨_, _, ?_, hrun, hended, _, _, rfl, ?_, ⟨_, rfl⟩, hW, hsame.mono (by decide) (by decide)⟩
  · jvm_step X15.here [X15.here.top, hx, (hb hby d35_25), X15.method', Bd.returns, Value.isRef, FieldType.isReference]
    first | (intro acts; rw [hr _ acts rfl rfl rfl]) | rw [hr _ _ rfl rfl rfl]
    exact Steps.refl _
  · show Q_rmVo Z _ _ h0 n0 _ T15.heap _
    exact ⟨b4, nb_7, kn_7, rfl, N15, K15, G15_0, G15_1, G15_2, G15_3, (by omega)⟩
theorem ef_rmMk (m : MethodId) (x0 : Int32) (x1 : Int32) (x2 : Int32) (x3 : Int32) : entryFrame m #[(.int x0), (.int x1), (.int x2), (.int x3)] 4 = mkF m 0 #[.val (.int x0), .val (.int x1), .val (.int x2), .val (.int x3)] [] := by first | (simp [entryFrame, mkF, argsToLocals, Value.category]; done) | rfl
theorem d1_0 : decode method_3_code 0 = .ok (.iload_n 0, 1) := by decide +kernel
theorem d1_1 : decode method_3_code 1 = .ok (.ifCond .ne 14, 3) := by decide +kernel
theorem d1_4 : decode method_3_code 4 = .ok (.new 23, 3) := by decide +kernel
theorem d1_7 : decode method_3_code 7 = .ok (.dup, 1) := by decide +kernel
theorem d1_8 : decode method_3_code 8 = .ok (.iconst 0, 1) := by decide +kernel
theorem d1_9 : decode method_3_code 9 = .ok (.newarray .char, 2) := by decide +kernel
theorem d1_11 : decode method_3_code 11 = .ok (.invokespecial 32, 3) := by decide +kernel
theorem pd__28_5bC_29V : parseMethodDescriptor "([C)V" = some ⟨[(.array .char)], none⟩ := by decide +kernel
theorem d1_14 : decode method_3_code 14 = .ok (.areturn, 1) := by decide +kernel
theorem d1_15 : decode method_3_code 15 = .ok (.iload_n 0, 1) := by decide +kernel
theorem d1_16 : decode method_3_code 16 = .ok (.iconst 1, 1) := by decide +kernel
theorem d1_17 : decode method_3_code 17 = .ok (.if_icmp .ne 8, 3) := by decide +kernel
theorem d1_20 : decode method_3_code 20 = .ok (.iload_n 1, 1) := by decide +kernel
theorem d1_21 : decode method_3_code 21 = .ok (.invokestatic 35, 3) := by decide +kernel
theorem pd__28C_29Ljava_2flang_2fString_3b : parseMethodDescriptor "(C)Ljava/lang/String;" = some ⟨[.char], some (.object "java/lang/String")⟩ := by decide +kernel
theorem d1_24 : decode method_3_code 24 = .ok (.areturn, 1) := by decide +kernel
theorem d1_25 : decode method_3_code 25 = .ok (.iload_n 0, 1) := by decide +kernel
theorem d1_26 : decode method_3_code 26 = .ok (.iconst 2, 1) := by decide +kernel
theorem d1_27 : decode method_3_code 27 = .ok (.if_icmp .ne 22, 3) := by decide +kernel
theorem d1_30 : decode method_3_code 30 = .ok (.new 23, 3) := by decide +kernel
theorem d1_33 : decode method_3_code 33 = .ok (.dup, 1) := by decide +kernel
theorem d1_34 : decode method_3_code 34 = .ok (.iconst 2, 1) := by decide +kernel
theorem d1_35 : decode method_3_code 35 = .ok (.newarray .char, 2) := by decide +kernel
theorem d1_37 : decode method_3_code 37 = .ok (.dup, 1) := by decide +kernel
theorem d1_38 : decode method_3_code 38 = .ok (.iconst 0, 1) := by decide +kernel
theorem d1_39 : decode method_3_code 39 = .ok (.iload_n 1, 1) := by decide +kernel
theorem d1_40 : decode method_3_code 40 = .ok (.castore, 1) := by decide +kernel
theorem d1_41 : decode method_3_code 41 = .ok (.dup, 1) := by decide +kernel
theorem d1_42 : decode method_3_code 42 = .ok (.iconst 1, 1) := by decide +kernel
theorem d1_43 : decode method_3_code 43 = .ok (.iload_n 2, 1) := by decide +kernel
theorem d1_44 : decode method_3_code 44 = .ok (.castore, 1) := by decide +kernel
theorem d1_45 : decode method_3_code 45 = .ok (.invokespecial 32, 3) := by decide +kernel
theorem d1_48 : decode method_3_code 48 = .ok (.areturn, 1) := by decide +kernel
theorem d1_49 : decode method_3_code 49 = .ok (.new 23, 3) := by decide +kernel
theorem d1_52 : decode method_3_code 52 = .ok (.dup, 1) := by decide +kernel
theorem d1_53 : decode method_3_code 53 = .ok (.iconst 3, 1) := by decide +kernel
theorem d1_54 : decode method_3_code 54 = .ok (.newarray .char, 2) := by decide +kernel
theorem d1_56 : decode method_3_code 56 = .ok (.dup, 1) := by decide +kernel
theorem d1_57 : decode method_3_code 57 = .ok (.iconst 0, 1) := by decide +kernel
theorem d1_58 : decode method_3_code 58 = .ok (.iload_n 1, 1) := by decide +kernel
theorem d1_59 : decode method_3_code 59 = .ok (.castore, 1) := by decide +kernel
theorem d1_60 : decode method_3_code 60 = .ok (.dup, 1) := by decide +kernel
theorem d1_61 : decode method_3_code 61 = .ok (.iconst 1, 1) := by decide +kernel
theorem d1_62 : decode method_3_code 62 = .ok (.iload_n 2, 1) := by decide +kernel
theorem d1_63 : decode method_3_code 63 = .ok (.castore, 1) := by decide +kernel
theorem d1_64 : decode method_3_code 64 = .ok (.dup, 1) := by decide +kernel
theorem d1_65 : decode method_3_code 65 = .ok (.iconst 2, 1) := by decide +kernel
theorem d1_66 : decode method_3_code 66 = .ok (.iload_n 3, 1) := by decide +kernel
theorem d1_67 : decode method_3_code 67 = .ok (.castore, 1) := by decide +kernel
theorem d1_68 : decode method_3_code 68 = .ok (.invokespecial 32, 3) := by decide +kernel
theorem d1_71 : decode method_3_code 71 = .ok (.areturn, 1) := by decide +kernel
theorem pn_com_example_ipomoea_ipomoea_store_JobKeyToStringPinLaw : plainName "com/example/ipomoea/ipomoea/store/JobKeyToStringPinLaw" = true := by first | (simp [plainName, overriddenIn]; done) | decide +kernel
def Q_rmMk (Z : State) (ml : Int32) (m0 : Int32) (m1 : Int32) (m2 : Int32) (zc : Int32) (h0 : Heap) (n0 : Nat) (v : Option Value) (h : Heap) (L : List Loc) : Prop := ∃ (b : Nat), ∃ (tb : Nat), ∃ (kb : ClassId), ∃ (nn : Int32), ∃ (vs : List Value), v = some (.ref b) ∧ Fr n0 L ∧ Keep h0 h [] ∧ Exa Z h b "java/lang/String" ∧ Fld Z h b "java/lang/String" "value" "[B" (.ref tb) ∧ Fld Z h b "java/lang/String" "coder" "B" (.int (0 : Int32)) ∧ Arv Z h tb kb .byte nn vs (.int (0 : Int32)) ∧ (own_fit vs nn) ∧ (vs = own_vs ml m0 m1 m2) ∧ (nn = ml) ∧ (h0.size ≤ b)
set_option maxRecDepth 65536 in
set_option maxHeartbeats 40000000 in
theorem rmMk (l : Launch) (Z : State) (a0 : Array Value) (hw : ∀ d ∈ tables_1, d.before a0 Z = true) (ws : List Jvm.Cond) (ml : Int32) (m0 : Int32) (m1 : Int32) (m2 : Int32) (zc : Int32) (h0 : Heap) (n0 : Nat) (Z0 : n0 ≤ h0.size) (OLD : Old Z n0 h0) (P1 : Sta Z Z.heap "java/lang/String" "COMPACT_STRINGS" "Z" (.int zc)) (hzc : ¬ (zc = (0 : Int32))) (rg0 : own_rg m0) (rg1 : own_rg m1) (rg2 : own_rg m2) (hm4 : own_4 ml) (hEL : EW Z a0 own_EL) :
    MetFree l (⟨"com/example/ipomoea/ipomoea/store/JobKeyToStringPinLaw", "mk", "(ICCC)Ljava/lang/String;"⟩ : MethodName) (head1 (Jvm.Cond.code (⟨"com/example/ipomoea/ipomoea/store/JobKeyToStringPinLaw", "mk", "(ICCC)Ljava/lang/String;"⟩ : MethodName) method_3_code 4 (some (.object "java/lang/String")) :: ws) ({ frames := 4, cells := 6, slots := 12, locals := 66 } : Room)) (fun a U => a = #[(.int ml), (.int m0), (.int m1), (.int m2)] ∧ Z.Warmed39 U.vm ∧ U.heap = h0 ∧ CHv Z own_EL U.vm h0) (fun _ _ _ _ _ => True) (fun _ U o U' => ∃ v L, o = .returned v ∧ Q_rmMk Z ml m0 m1 m2 zc h0 n0 v U'.heap L ∧ CHr Z own_EL U.vm U.heap U'.vm U'.heap ∧ ReturnedEndW U o U' L ({ frames := 4, cells := 6, slots := 12, locals := 66 } : Room).cells ({ frames := 4, cells := 6, slots := 12, locals := 66 } : Room).slots) := by
  refine MetFree.of_bodySF (plainFor_of_name pn_com_example_ipomoea_ipomoea_store_JobKeyToStringPinLaw) hisR ?_
  intro p e s m args below meth c s₁ Bd hml0 hP hK
  obtain ⟨rfl, hZ, hh, hCH⟩ := hP
  have hx := Bd.exec
  have hby := Bd.bytes
  have hml : c.maxLocals = 4 := hml0
  have hown : s.vm.findClass "com/example/ipomoea/ipomoea/store/JobKeyToStringPinLaw" = some m.cls := findClass_of_methodNamed Bd.named
  have hnm := (name_of_methodNamed Bd.named Bd.method).1
  have X0 : Stand p l e ({ frames := 4, cells := 6, slots := 12, locals := 66 } : Room) (s.setVm s.vm) m #[(.int ml), (.int m0), (.int m1), (.int m2)] below meth c s₁ [] 0 0 := Stand.of_body Bd
  have e0 : s₁.heap = h0 := by rw [← hh, Bd.state]; rfl
  have N0 := Fr.nil n0
  have pre0 : ∀ t, Steps p.tables e below (s₁.setTop (mkF m 0 #[.val (.int ml), .val (.int m0), .val (.int m1), .val (.int m2)] [])) t → Steps p.tables e below (s₁.setTop (entryFrame m #[(.int ml), (.int m0), (.int m1), (.int m2)] 4)) t := fun t k => castTop (ef_rmMk m ml m0 m1 m2) k
  have hZ : Z.Warmed39 (s.setVm s.vm).vm := hZ
  have hown : (s.setVm s.vm).vm.findClass "com/example/ipomoea/ipomoea/store/JobKeyToStringPinLaw" = some m.cls := hown
  have hS : s.Since s.vm 0 := (State.WarmedH.refl s).since 0
  have CH0 : CHr Z own_EL s.vm h0 s.vm h0 := CHr.refl hCH
  have oz := OLD.1
  refine own_go (B := s₁.setTop (mkF m 0 #[.val (.int ml), .val (.int m0), .val (.int m1), .val (.int m2)] [])) pre0 ?_
  show ∃ t o, Steps p.tables e below (s₁.setTop (mkF m 0 #[.val (.int ml), .val (.int m0), .val (.int m1), .val (.int m2)] [])) t ∧ _
  refine own_go (fun _ => XS.iloadN X0.here hx rfl (hb hby d1_0) rfl) ?_
  show ∃ t o, Steps p.tables e below (s₁.setTop (mkF m 1 #[.val (.int ml), .val (.int m0), .val (.int m1), .val (.int m2)] [(.int ml)])) t ∧ _
  by_cases hc2 : ml = (0 : Int32)
  · refine own_go (fun _ => XS.ifNo X0.here hx rfl (hb hby d1_1) rfl ((if0 _ _).trans (teq hc2).2)) ?_
    show ∃ t o, Steps p.tables e below (s₁.setTop (mkF m 4 #[.val (.int ml), .val (.int m0), .val (.int m1), .val (.int m2)] [])) t ∧ _
    obtain ⟨T3, h3, X3, e3, E3, A3, D3, -, st3⟩ := newO X0 hx hZ hown (hw _ (List.mem_of_getElem? (i := 4) rfl)) (hw _ (List.mem_of_getElem? (i := 5) rfl)) (hw _ (List.mem_of_getElem? (i := 6) rfl)) e0 (g := (mkF m 4 #[.val (.int ml), .val (.int m0), .val (.int m1), .val (.int m2)] [])) rfl (hb hby d1_4) (by decide) (by decide)
    obtain ⟨b3, g3⟩ : ∃ z, z = h0.size := ⟨_, rfl⟩
    rw [← g3] at A3 D3 st3
    refine own_go st3 ?_
    have le_3 : h0.size ≤ h3.size := E3.1
    have lt_b3 : b3 < h3.size := A3.lt
    have F_value_b3 : Fld Z h3 b3 "java/lang/String" "value" "[B" .null := D3 (Or.inr (hw _ (List.mem_of_getElem? (i := 20) rfl))) (ty := (.array .byte)) (by decide)
    have F_coder_b3 : Fld Z h3 b3 "java/lang/String" "coder" "B" (.int (0 : Int32)) := D3 (Or.inr (hw _ (List.mem_of_getElem? (i := 21) rfl))) (ty := .byte) (by decide)
    have K3 : Keep h0 h3 [] := Keep.ext (Keep.refl h0 []) E3
    have CH4 := CHr.trans CH0 (CHr.ext E3 CH0.1)
    refine own_go (fun _ => XS.dup X3.here hx rfl (hb hby d1_7) rfl rfl) ?_
    refine own_go (fun _ => XS.iconst X3.here hx rfl (hb hby d1_8)) ?_
    show ∃ t o, Steps p.tables e below (T3.setTop (mkF m 9 #[.val (.int ml), .val (.int m0), .val (.int m1), .val (.int m2)] [(.int (0 : Int32)), (.ref b3), (.ref b3)])) t ∧ _
    obtain ⟨T5, h5, k5, X5, e5, E5, A5, st5⟩ := newP X3 hx hZ (hw _ (List.mem_of_getElem? (i := 7) rfl)) e3 (g := (mkF m 9 #[.val (.int ml), .val (.int m0), .val (.int m1), .val (.int m2)] [(.int (0 : Int32)), (.ref b3), (.ref b3)])) rfl (hb hby d1_9) rfl (by decide) (cap := 0) (by decide) (by decide) (by decide) (by decide)
    obtain ⟨b5, g5⟩ : ∃ z, z = h3.size := ⟨_, rfl⟩
    rw [← g5] at A5 st5
    refine own_go st5 ?_
    have le_5 : h3.size ≤ h5.size := E5.1
    have lt_b5 : b5 < h5.size := A5.lt
    have V_b5 : Arv Z h5 b5 k5 .char (0 : Int32) [] (.int (0 : Int32)) := (Arv.new A5 (by decide)).pad (pad_rep [] (.int (0 : Int32)) 0)
    have K5 : Keep h0 h5 [] := Keep.ext K3 E5
    have CH6 := CHr.trans CH4 (CHr.ext E5 CH4.1)
    show ∃ t o, Steps p.tables e below (T5.setTop (mkF m 11 #[.val (.int ml), .val (.int m0), .val (.int m1), .val (.int m2)] [(.ref b5), (.ref b3), (.ref b3)])) t ∧ _
    have F7 : Exa Z h5 b3 "java/lang/String" := (Exa.ext E5 A3)
    have F8 : Fld Z h5 b3 "java/lang/String" "value" "[B" .null := (Fld.ext E5 F_value_b3)
    have F9 : Fld Z h5 b3 "java/lang/String" "coder" "B" (.int (0 : Int32)) := (Fld.ext E5 F_coder_b3)
    have F10 : Old Z n0 h5 := ((OLD.ext E3).ext E5)
    have ge11 : n0 ≤ b3 := by omega
    have zl12 : n0 ≤ h5.size := by omega
    obtain ⟨_, _, ⟨T13, L13, k13, n13⟩, -, X13, hSn13, hgn13, ⟨Lc13, hQ13, l13, y13, z13, cr13⟩, st13⟩ := X5.specialBackS hx (y := (⟨"java/lang/String", "<init>", "([C)V"⟩ : MethodName)) rfl hown (mvT hZ (hw _ (List.mem_of_getElem? (i := 8) rfl))) (mvT hZ (hw _ (List.mem_of_getElem? (i := 9) rfl))) (mvT hZ (hw _ (List.mem_of_getElem? (i := 10) rfl))) (by decide) (backOfSH (W := 1) (rmS1 l Z a0 hw [] b3 b5 k5 h5 n0 zl12 F7 F8 F9 V_b5 F10 ge11 hEL) hZ (hw _ (List.mem_of_getElem? (i := 10) rfl)) (hw _ (List.mem_of_getElem? (i := 6) rfl)) (by decide) (by decide) hEL CH6.1) (g := (mkF m 11 #[.val (.int ml), .val (.int m0), .val (.int m1), .val (.int m2)] [(.ref b5), (.ref b3), (.ref b3)])) rfl (by rw [hml]; rfl) (Steps.refl _) (a := b3) (argsL := [(.ref b5)]) (rest := [(.ref b3)]) (lenOf pd__28_5bC_29V rfl) rfl (by show 2 * 0 + _ ≤ _; exact Nat.le_of_eq rfl) (hb hby d1_11) (fun _ _ => ⟨rfl, e5, (by decide : 2 + 4 ≤ _), (by decide : 4 + 8 ≤ _)⟩)
    dsimp only [Pt.U, Pt.locs, Pt.cells, Pt.slots] at X13 l13 y13 z13 st13 hQ13 hSn13 hgn13 cr13
    rw [l13, y13, z13] at X13
    have hZ : Z.Warmed39 (s.setVm T13.vm).vm := State.Warmed39.trans (t := s.setVm s.vm) hZ hSn13.1
    have hown : (s.setVm T13.vm).vm.findClass "com/example/ipomoea/ipomoea/store/JobKeyToStringPinLaw" = some m.cls := by rw [show (s.setVm T13.vm).vm = T13.vm from rfl, hSn13.1.alike.findClass]; exact hown
    have hS : s.Since T13.vm T13.heap.size := foldS (T := T5) hS (Nat.zero_le _) hSn13 hgn13
    have X13 : Stand p l e _ (s.setVm T13.vm) m _ below meth c T13 _ _ _ := X13
    obtain ⟨tb_13, kb_13, rfl, Nq13, Kp13, G13_0, G13_1, G13_2, G13_3⟩ := hQ13
    have N13 := Fr.app N0 Nq13
    refine own_goT st13 ?_
    have le_13 : h5.size ≤ T13.heap.size := Kp13.1
    have sz14 : h0.size ≤ b3 := by omega
    have K13 : Keep h0 T13.heap [] := Keep.trans K5 Kp13 (allS (Or.inr sz14) all0)
    have CH15 := CHr.trans CH6 cr13
    have lt_tb_13 : tb_13 < T13.heap.size := (G13_3).lt
    show ∃ t o, Steps p.tables e below (T13.setTop (mkF m 14 #[.val (.int ml), .val (.int m0), .val (.int m1), .val (.int m2)] [(.ref b3)])) t ∧ _
    obtain ⟨fs, hr, hrun, hended, hW⟩ := Jvm.Stand.leaveW X13 hS (by omega) (v := some (.ref b3)) (fun h => by rw [Bd.returns] at h; cases h)
    have CHz : CHr Z own_EL s.vm s.heap T13.vm T13.heap := by rw [hh]; exact CHr.trans CH15 (CHv.at X13 hZ hEL CH15.1)
    refine ⟨_, _, ?_, hrun, hended, _, _, rfl, ?_, CHz, ⟨hW.1, hW.2.1, hW.2.2.1, hW.2.2.2.mono (by decide) (by decide)⟩⟩
    · jvm_step X13.here [X13.here.top, hx, (hb hby d1_14), X13.method', Bd.returns, Value.isRef, FieldType.isReference]
      first | (intro acts; rw [hr _ acts rfl rfl rfl]) | rw [hr _ _ rfl rfl rfl]
      exact Steps.refl _
    · show Q_rmMk Z _ _ _ _ _ h0 n0 _ T13.heap _
      exact ⟨b3, tb_13, kb_13, (0 : Int32), [], rfl, N13, K13, G13_0, G13_1, G13_2, G13_3, (by show (0 : Int32).toInt = _; rfl), (by unfold own_vs; rw [if_pos hc2]), hc2.symm, (by omega)⟩
  · refine own_go (fun _ => XS.ifYes X0.here hx rfl (pc0 := 1) (pc' := 15) rfl (hb hby d1_1) rfl ((if0 _ _).trans (feq hc2).2) (by decide) (by decide)) ?_
    refine own_go (fun _ => XS.iloadN X0.here hx rfl (hb hby d1_15) rfl) ?_
    refine own_go (fun _ => XS.iconst X0.here hx rfl (hb hby d1_16)) ?_
    show ∃ t o, Steps p.tables e below (s₁.setTop (mkF m 17 #[.val (.int ml), .val (.int m0), .val (.int m1), .val (.int m2)] [(.int (1 : Int32)), (.int ml)])) t ∧ _
    by_cases hc16 : ml = (1 : Int32)
    · refine own_go (fun _ => XS.icmpNo X0.here hx rfl (hb hby d1_17) rfl (teq hc16).2) ?_
      refine own_go (fun _ => XS.iloadN X0.here hx rfl (hb hby d1_20) rfl) ?_
      show ∃ t o, Steps p.tables e below (s₁.setTop (mkF m 21 #[.val (.int ml), .val (.int m0), .val (.int m1), .val (.int m2)] [(.int m0)])) t ∧ _
      obtain ⟨_, _, ⟨T17, L17, k17, n17⟩, -, X17, ⟨Lc17, hQ17, l17, y17, z17⟩, st17⟩ := Jvm.LawKit.callS X0 hx (y := (⟨"java/lang/String", "valueOf", "(C)Ljava/lang/String;"⟩ : MethodName)) hown (mvT hZ (hw _ (List.mem_of_getElem? (i := 187) rfl))) (mvT hZ (hw _ (List.mem_of_getElem? (i := 188) rfl))) (mvT hZ (hw _ (List.mem_of_getElem? (i := 6) rfl))) (mvT hZ (hw _ (List.mem_of_getElem? (i := 189) rfl))) (by decide) (backOf (W := 0) (rmVo l Z a0 hw [] m0 zc h0 n0 Z0 OLD P1 hzc (rg0 : own_rg m0)) hZ (hw _ (List.mem_of_getElem? (i := 189) rfl)) (hw _ (List.mem_of_getElem? (i := 6) rfl)) (by decide) (by decide)) (g := (mkF m 21 #[.val (.int ml), .val (.int m0), .val (.int m1), .val (.int m2)] [(.int m0)])) rfl (by rw [hml]; rfl) (argsL := [(.int m0)]) (rest := []) (lenOf pd__28C_29Ljava_2flang_2fString_3b rfl) rfl (by show 2 * 0 + _ ≤ _; exact Nat.le_of_eq rfl) (hb hby d1_21) (fun _ _ => ⟨rfl, e0, (by decide : 0 + 2 ≤ _), (by decide : 0 + 5 ≤ _)⟩)
      dsimp only [Pt.U, Pt.locs, Pt.cells, Pt.slots] at X17 l17 y17 z17 st17 hQ17
      rw [l17, y17, z17] at X17
      obtain ⟨b_17, tb_17, kb_17, rfl, Nq17, Kp17, G17_0, G17_1, G17_2, G17_3, H17_0⟩ := hQ17
      have N17 := Fr.app N0 Nq17
      refine own_go st17 ?_
      have le_17 : h0.size ≤ T17.heap.size := Kp17.1
      have K17 : Keep h0 T17.heap [] := Keep.trans (Keep.refl h0 []) Kp17 all0
      have CH18 := CHr.trans CH0 (CHr.keep Kp17 all0 CH0.1)
      have lt_b_17 : b_17 < T17.heap.size := (G17_0).lt
      have lt_tb_17 : tb_17 < T17.heap.size := (G17_3).lt
      show ∃ t o, Steps p.tables e below (T17.setTop (mkF m 24 #[.val (.int ml), .val (.int m0), .val (.int m1), .val (.int m2)] [(.ref b_17)])) t ∧ _
      obtain ⟨fs, hr, hrun, hended, hW⟩ := Jvm.Stand.leaveW X17 hS (Nat.zero_le _) (v := some (.ref b_17)) (fun h => by rw [Bd.returns] at h; cases h)
      have CHz : CHr Z own_EL s.vm s.heap T17.vm T17.heap := by rw [hh]; exact CHr.trans CH18 (CHv.at X17 hZ hEL CH18.1)
      refine ⟨_, _, ?_, hrun, hended, _, _, rfl, ?_, CHz, ⟨hW.1, hW.2.1, hW.2.2.1, hW.2.2.2.mono (by decide) (by decide)⟩⟩
      · jvm_step X17.here [X17.here.top, hx, (hb hby d1_24), X17.method', Bd.returns, Value.isRef, FieldType.isReference]
        first | (intro acts; rw [hr _ acts rfl rfl rfl]) | rw [hr _ _ rfl rfl rfl]
        exact Steps.refl _
      · show Q_rmMk Z _ _ _ _ _ h0 n0 _ T17.heap _
        exact ⟨b_17, tb_17, kb_17, (1 : Int32), [(.int (m0.toInt8.toInt32))], rfl, N17, K17, G17_0, G17_1, G17_2, G17_3, (by show (1 : Int32).toInt = _; rfl), (by unfold own_vs; rw [if_neg hc2, if_pos hc16]), hc16.symm, H17_0⟩
    · refine own_go (fun _ => XS.icmpYes X0.here hx rfl (pc0 := 17) (pc' := 25) rfl (hb hby d1_17) rfl (feq hc16).2 (by decide) (by decide)) ?_
      refine own_go (fun _ => XS.iloadN X0.here hx rfl (hb hby d1_25) rfl) ?_
      refine own_go (fun _ => XS.iconst X0.here hx rfl (hb hby d1_26)) ?_
      show ∃ t o, Steps p.tables e below (s₁.setTop (mkF m 27 #[.val (.int ml), .val (.int m0), .val (.int m1), .val (.int m2)] [(.int (2 : Int32)), (.int ml)])) t ∧ _
      by_cases hc19 : ml = (2 : Int32)
      · refine own_go (fun _ => XS.icmpNo X0.here hx rfl (hb hby d1_27) rfl (teq hc19).2) ?_
        show ∃ t o, Steps p.tables e below (s₁.setTop (mkF m 30 #[.val (.int ml), .val (.int m0), .val (.int m1), .val (.int m2)] [])) t ∧ _
        obtain ⟨T20, h20, X20, e20, E20, A20, D20, -, st20⟩ := newO X0 hx hZ hown (hw _ (List.mem_of_getElem? (i := 4) rfl)) (hw _ (List.mem_of_getElem? (i := 5) rfl)) (hw _ (List.mem_of_getElem? (i := 6) rfl)) e0 (g := (mkF m 30 #[.val (.int ml), .val (.int m0), .val (.int m1), .val (.int m2)] [])) rfl (hb hby d1_30) (by decide) (by decide)
        obtain ⟨b20, g20⟩ : ∃ z, z = h0.size := ⟨_, rfl⟩
        rw [← g20] at A20 D20 st20
        refine own_go st20 ?_
        have le_20 : h0.size ≤ h20.size := E20.1
        have lt_b20 : b20 < h20.size := A20.lt
        have F_value_b20 : Fld Z h20 b20 "java/lang/String" "value" "[B" .null := D20 (Or.inr (hw _ (List.mem_of_getElem? (i := 20) rfl))) (ty := (.array .byte)) (by decide)
        have F_coder_b20 : Fld Z h20 b20 "java/lang/String" "coder" "B" (.int (0 : Int32)) := D20 (Or.inr (hw _ (List.mem_of_getElem? (i := 21) rfl))) (ty := .byte) (by decide)
        have K20 : Keep h0 h20 [] := Keep.ext (Keep.refl h0 []) E20
        have CH21 := CHr.trans CH0 (CHr.ext E20 CH0.1)
        refine own_go (fun _ => XS.dup X20.here hx rfl (hb hby d1_33) rfl rfl) ?_
        refine own_go (fun _ => XS.iconst X20.here hx rfl (hb hby d1_34)) ?_
        show ∃ t o, Steps p.tables e below (T20.setTop (mkF m 35 #[.val (.int ml), .val (.int m0), .val (.int m1), .val (.int m2)] [(.int (2 : Int32)), (.ref b20), (.ref b20)])) t ∧ _
        obtain ⟨T22, h22, k22, X22, e22, E22, A22, st22⟩ := newP X20 hx hZ (hw _ (List.mem_of_getElem? (i := 7) rfl)) e20 (g := (mkF m 35 #[.val (.int ml), .val (.int m0), .val (.int m1), .val (.int m2)] [(.int (2 : Int32)), (.ref b20), (.ref b20)])) rfl (hb hby d1_35) rfl (by decide) (cap := 2) (by decide) (by decide) (by decide) (by decide)
        obtain ⟨b22, g22⟩ : ∃ z, z = h20.size := ⟨_, rfl⟩
        rw [← g22] at A22 st22
        refine own_go st22 ?_
        have le_22 : h20.size ≤ h22.size := E22.1
        have lt_b22 : b22 < h22.size := A22.lt
        have V_b22 : Arv Z h22 b22 k22 .char (2 : Int32) [(.int (0 : Int32)), (.int (0 : Int32))] (.int (0 : Int32)) := (Arv.new A22 (by decide)).pad (pad_rep [] (.int (0 : Int32)) 2)
        have K22 : Keep h0 h22 [] := Keep.ext K20 E22
        have CH23 := CHr.trans CH21 (CHr.ext E22 CH21.1)
        refine own_go (fun _ => XS.dup X22.here hx rfl (hb hby d1_37) rfl rfl) ?_
        refine own_go (fun _ => XS.iconst X22.here hx rfl (hb hby d1_38)) ?_
        show ∃ t o, Steps p.tables e below (T22.setTop (mkF m 39 #[.val (.int ml), .val (.int m0), .val (.int m1), .val (.int m2)] [(.int (0 : Int32)), (.ref b22), (.ref b22), (.ref b20), (.ref b20)])) t ∧ _
        refine own_go (fun _ => XS.iloadN X22.here hx rfl (hb hby d1_39) rfl) ?_
        obtain ⟨cl24, Ar24, q24, S24, N24, H24, G24⟩ := id V_b22
        have sf25 := Safe.arr (EL := own_EL) hZ.alike Ar24 (by decide)
        have hin24 : ¬ ((0 : Int32) < 0 ∨ cl24.slots.size ≤ ((0 : Int32)).toNatClampNeg) := inb_of S24 ⟨by decide, by decide⟩
        obtain ⟨T26, h26, X26, e26, W26, st26⟩ := stC X22 hx hZ e22 Ar24 (j := (0 : Int32)) hin24 (g := (mkF m 40 #[.val (.int ml), .val (.int m0), .val (.int m1), .val (.int m2)] [(.int m0), (.int (0 : Int32)), (.ref b22), (.ref b22), (.ref b20), (.ref b20)])) rfl rfl (hb hby d1_40)
        refine own_go st26 ?_
        have CH27 := CHr.trans CH23 (CHr.wr W26 sf25 CH23.1)
        have ge28 : n0 ≤ b22 := by omega
        have le_26 : h22.size ≤ h26.size := Nat.le_of_eq W26.size.symm
        have sz29 : h0.size ≤ b22 := by omega
        have K26 : Keep h0 h26 [] := Keep.wr K22 W26 (Or.inr sz29)
        have N26 := Fr.snoc X26 N0 ge28
        have V26 : Arv Z h26 b22 k22 .char (2 : Int32) [(.int (nar .char m0)), (.int (0 : Int32))] (.int (0 : Int32)) := Arv.set Ar24 q24 S24 N24 H24 G24 (fits_nar_char _) W26 0 rfl (Nat.le_of_ble_eq_true rfl)
        refine own_go (fun _ => XS.dup X26.here hx rfl (hb hby d1_41) rfl rfl) ?_
        show ∃ t o, Steps p.tables e below (T26.setTop (mkF m 42 #[.val (.int ml), .val (.int m0), .val (.int m1), .val (.int m2)] [(.ref b22), (.ref b22), (.ref b20), (.ref b20)])) t ∧ _
        refine own_go (fun _ => XS.iconst X26.here hx rfl (hb hby d1_42)) ?_
        refine own_go (fun _ => XS.iloadN X26.here hx rfl (hb hby d1_43) rfl) ?_
        obtain ⟨cl30, Ar30, q30, S30, N30, H30, G30⟩ := id V26
        have sf31 := Safe.arr (EL := own_EL) hZ.alike Ar30 (by decide)
        have hin30 : ¬ ((1 : Int32) < 0 ∨ cl30.slots.size ≤ ((1 : Int32)).toNatClampNeg) := inb_of S30 ⟨by decide, by decide⟩
        obtain ⟨T32, h32, X32, e32, W32, st32⟩ := stC X26 hx hZ e26 Ar30 (j := (1 : Int32)) hin30 (g := (mkF m 44 #[.val (.int ml), .val (.int m0), .val (.int m1), .val (.int m2)] [(.int m1), (.int (1 : Int32)), (.ref b22), (.ref b22), (.ref b20), (.ref b20)])) rfl rfl (hb hby d1_44)
        refine own_go st32 ?_
        have CH33 := CHr.trans CH27 (CHr.wr W32 sf31 CH27.1)
        have le_32 : h26.size ≤ h32.size := Nat.le_of_eq W32.size.symm
        have K32 : Keep h0 h32 [] := Keep.wr K26 W32 (Or.inr sz29)
        have N32 := Fr.snoc X32 N26 ge28
        have V32 : Arv Z h32 b22 k22 .char (2 : Int32) [(.int (nar .char m0)), (.int (nar .char m1))] (.int (0 : Int32)) := Arv.set Ar30 q30 S30 N30 H30 G30 (fits_nar_char _) W32 1 rfl (Nat.le_of_ble_eq_true rfl)
        show ∃ t o, Steps p.tables e below (T32.setTop (mkF m 45 #[.val (.int ml), .val (.int m0), .val (.int m1), .val (.int m2)] [(.ref b22), (.ref b20), (.ref b20)])) t ∧ _
        have hws : ∀ d ∈ StrChars.Road.words, d.before a0 Z = true := fun d hd => hw d ((by decide +kernel : ∀ d ∈ StrChars.Road.words, d ∈ tables_1) d hd)
        have hp34 : ∀ c ∈ ([(nar .char m0), (nar .char m1)] : List Int32), ¬ c < 0 ∧ ¬ (255 : Int32) < c := (own_allS (own_rgn rg0) (own_allS (own_rgn rg1) own_all0))
        have F35 : Exa Z h32 b20 "java/lang/String" := (Exa.wr W32 (Exa.wr W26 (Exa.ext E22 A20)))
        have ne36 : b20 ≠ b22 := own_ne (by omega)
        have F37 : Fld Z h32 b20 "java/lang/String" "value" "[B" .null := (Fld.other W32 (Fld.other W26 (Fld.ext E22 F_value_b20) (Or.inl ne36)) (Or.inl ne36))
        have F38 : Fld Z h32 b20 "java/lang/String" "coder" "B" (.int (0 : Int32)) := (Fld.other W32 (Fld.other W26 (Fld.ext E22 F_coder_b20) (Or.inl ne36)) (Or.inl ne36))
        have F39 : Old Z n0 h32 := (Old.wr (Old.wr ((OLD.ext E20).ext E22) W26 ge28) W32 ge28)
        have zl40 : n0 ≤ h32.size := by omega
        have ge41 : n0 ≤ b20 := by omega
        have sf42 := own_safe_null (EL := own_EL) hZ.alike F35 F37
        obtain ⟨_, _, ⟨T34, L34, k34, n34⟩, -, X34, ⟨Lc34, hQ34, l34, y34, z34⟩, st34⟩ := X32.specialBack hx (y := (⟨"java/lang/String", "<init>", "([C)V"⟩ : MethodName)) rfl hown (mvT hZ (hw _ (List.mem_of_getElem? (i := 8) rfl))) (mvT hZ (hw _ (List.mem_of_getElem? (i := 9) rfl))) (mvT hZ (hw _ (List.mem_of_getElem? (i := 10) rfl))) (by decide) (StrChars.Road.backV (W := 1) hZ hws (kI := 4) (hw _ (List.mem_of_getElem? (i := 5) rfl)) (cs := ([(nar .char m0), (nar .char m1)] : List Int32)) (bs := (([(nar .char m0), (nar .char m1)] : List Int32)).map (fun c => c.toInt8.toInt32)) (n := 2) ge41 zl40 F35 F37 F38 V32 (Sta.ext F39.2 P1) hzc rfl rfl (by decide) (by decide) hp34 rfl (by decide) (by decide)) (g := (mkF m 45 #[.val (.int ml), .val (.int m0), .val (.int m1), .val (.int m2)] [(.ref b22), (.ref b20), (.ref b20)])) rfl (by rw [hml]; rfl) (Steps.refl _) (a := b20) (argsL := [(.ref b22)]) (rest := [(.ref b20)]) (lenOf pd__28_5bC_29V rfl) rfl (by show 2 * 0 + _ ≤ _; exact Nat.le_of_eq rfl) (hb hby d1_45) (fun _ _ => ⟨rfl, e32, (by decide : 2 + 1 ≤ _), (by decide : 6 + 2 ≤ _)⟩)
        dsimp only [Pt.U, Pt.locs, Pt.cells, Pt.slots] at X34 l34 y34 z34 st34 hQ34
        subst l34 y34 z34
        obtain ⟨rfl, Nq34, Kp34, G34_0, G34_1, t34, kb34, u34_1, u34_2, u34_3, G34_2, G34_3⟩ := hQ34
        have N34 := Fr.app N32 Nq34
        refine own_goT st34 ?_
        have le_34 : h32.size ≤ T34.heap.size := Kp34.1
        have sz43 : h0.size ≤ b20 := by omega
        have K34 : Keep h0 T34.heap [] := Keep.trans K32 Kp34 (allS (Or.inr sz43) all0)
        have CH44 := CHr.trans CH33 (CHr.keep Kp34 (allS sf42 all0) CH33.1)
        have G34_4 : Arv Z T34.heap t34 kb34 .byte (2 : Int32) [(.int ((nar .char m0).toInt8.toInt32)), (.int ((nar .char m1).toInt8.toInt32))] (.int (0 : Int32)) := G34_3
        have lt_t34 : (t34 : Nat) < T34.heap.size := G34_3.lt
        show ∃ t o, Steps p.tables e below (T34.setTop (mkF m 48 #[.val (.int ml), .val (.int m0), .val (.int m1), .val (.int m2)] [(.ref b20)])) t ∧ _
        obtain ⟨fs, hr, hrun, hended, hW⟩ := Jvm.Stand.leaveW X34 hS (Nat.zero_le _) (v := some (.ref b20)) (fun h => by rw [Bd.returns] at h; cases h)
        have CHz : CHr Z own_EL s.vm s.heap T34.vm T34.heap := by rw [hh]; exact CHr.trans CH44 (CHv.at X34 hZ hEL CH44.1)
        refine ⟨_, _, ?_, hrun, hended, _, _, rfl, ?_, CHz, ⟨hW.1, hW.2.1, hW.2.2.1, hW.2.2.2.mono (by decide) (by decide)⟩⟩
        · jvm_step X34.here [X34.here.top, hx, (hb hby d1_48), X34.method', Bd.returns, Value.isRef, FieldType.isReference]
          first | (intro acts; rw [hr _ acts rfl rfl rfl]) | rw [hr _ _ rfl rfl rfl]
          exact Steps.refl _
        · show Q_rmMk Z _ _ _ _ _ h0 n0 _ T34.heap _
          exact ⟨b20, t34, kb34, (2 : Int32), [(.int ((nar .char m0).toInt8.toInt32)), (.int ((nar .char m1).toInt8.toInt32))], rfl, N34, K34, G34_0, G34_2, G34_1, G34_4, (by show (2 : Int32).toInt = _; rfl), (by unfold own_vs; rw [if_neg hc2, if_neg hc16, if_pos hc19]; simp only [own_narc rg0, own_narc rg1]), hc19.symm, (by omega)⟩
      · refine own_go (fun _ => XS.icmpYes X0.here hx rfl (pc0 := 27) (pc' := 49) rfl (hb hby d1_27) rfl (feq hc19).2 (by decide) (by decide)) ?_
        show ∃ t o, Steps p.tables e below (s₁.setTop (mkF m 49 #[.val (.int ml), .val (.int m0), .val (.int m1), .val (.int m2)] [])) t ∧ _
        obtain ⟨T45, h45, X45, e45, E45, A45, D45, -, st45⟩ := newO X0 hx hZ hown (hw _ (List.mem_of_getElem? (i := 4) rfl)) (hw _ (List.mem_of_getElem? (i := 5) rfl)) (hw _ (List.mem_of_getElem? (i := 6) rfl)) e0 (g := (mkF m 49 #[.val (.int ml), .val (.int m0), .val (.int m1), .val (.int m2)] [])) rfl (hb hby d1_49) (by decide) (by decide)
        obtain ⟨b45, g45⟩ : ∃ z, z = h0.size := ⟨_, rfl⟩
        rw [← g45] at A45 D45 st45
        refine own_go st45 ?_
        have le_45 : h0.size ≤ h45.size := E45.1
        have lt_b45 : b45 < h45.size := A45.lt
        have F_value_b45 : Fld Z h45 b45 "java/lang/String" "value" "[B" .null := D45 (Or.inr (hw _ (List.mem_of_getElem? (i := 20) rfl))) (ty := (.array .byte)) (by decide)
        have F_coder_b45 : Fld Z h45 b45 "java/lang/String" "coder" "B" (.int (0 : Int32)) := D45 (Or.inr (hw _ (List.mem_of_getElem? (i := 21) rfl))) (ty := .byte) (by decide)
        have K45 : Keep h0 h45 [] := Keep.ext (Keep.refl h0 []) E45
        have CH46 := CHr.trans CH0 (CHr.ext E45 CH0.1)
        refine own_go (fun _ => XS.dup X45.here hx rfl (hb hby d1_52) rfl rfl) ?_
        refine own_go (fun _ => XS.iconst X45.here hx rfl (hb hby d1_53)) ?_
        show ∃ t o, Steps p.tables e below (T45.setTop (mkF m 54 #[.val (.int ml), .val (.int m0), .val (.int m1), .val (.int m2)] [(.int (3 : Int32)), (.ref b45), (.ref b45)])) t ∧ _
        obtain ⟨T47, h47, k47, X47, e47, E47, A47, st47⟩ := newP X45 hx hZ (hw _ (List.mem_of_getElem? (i := 7) rfl)) e45 (g := (mkF m 54 #[.val (.int ml), .val (.int m0), .val (.int m1), .val (.int m2)] [(.int (3 : Int32)), (.ref b45), (.ref b45)])) rfl (hb hby d1_54) rfl (by decide) (cap := 3) (by decide) (by decide) (by decide) (by decide)
        obtain ⟨b47, g47⟩ : ∃ z, z = h45.size := ⟨_, rfl⟩
        rw [← g47] at A47 st47
        refine own_go st47 ?_
        have le_47 : h45.size ≤ h47.size := E47.1
        have lt_b47 : b47 < h47.size := A47.lt
        have V_b47 : Arv Z h47 b47 k47 .char (3 : Int32) [(.int (0 : Int32)), (.int (0 : Int32)), (.int (0 : Int32))] (.int (0 : Int32)) := (Arv.new A47 (by decide)).pad (pad_rep [] (.int (0 : Int32)) 3)
        have K47 : Keep h0 h47 [] := Keep.ext K45 E47
        have CH48 := CHr.trans CH46 (CHr.ext E47 CH46.1)
        refine own_go (fun _ => XS.dup X47.here hx rfl (hb hby d1_56) rfl rfl) ?_
        refine own_go (fun _ => XS.iconst X47.here hx rfl (hb hby d1_57)) ?_
        show ∃ t o, Steps p.tables e below (T47.setTop (mkF m 58 #[.val (.int ml), .val (.int m0), .val (.int m1), .val (.int m2)] [(.int (0 : Int32)), (.ref b47), (.ref b47), (.ref b45), (.ref b45)])) t ∧ _
        refine own_go (fun _ => XS.iloadN X47.here hx rfl (hb hby d1_58) rfl) ?_
        obtain ⟨cl49, Ar49, q49, S49, N49, H49, G49⟩ := id V_b47
        have sf50 := Safe.arr (EL := own_EL) hZ.alike Ar49 (by decide)
        have hin49 : ¬ ((0 : Int32) < 0 ∨ cl49.slots.size ≤ ((0 : Int32)).toNatClampNeg) := inb_of S49 ⟨by decide, by decide⟩
        obtain ⟨T51, h51, X51, e51, W51, st51⟩ := stC X47 hx hZ e47 Ar49 (j := (0 : Int32)) hin49 (g := (mkF m 59 #[.val (.int ml), .val (.int m0), .val (.int m1), .val (.int m2)] [(.int m0), (.int (0 : Int32)), (.ref b47), (.ref b47), (.ref b45), (.ref b45)])) rfl rfl (hb hby d1_59)
        refine own_go st51 ?_
        have CH52 := CHr.trans CH48 (CHr.wr W51 sf50 CH48.1)
        have ge53 : n0 ≤ b47 := by omega
        have le_51 : h47.size ≤ h51.size := Nat.le_of_eq W51.size.symm
        have sz54 : h0.size ≤ b47 := by omega
        have K51 : Keep h0 h51 [] := Keep.wr K47 W51 (Or.inr sz54)
        have N51 := Fr.snoc X51 N0 ge53
        have V51 : Arv Z h51 b47 k47 .char (3 : Int32) [(.int (nar .char m0)), (.int (0 : Int32)), (.int (0 : Int32))] (.int (0 : Int32)) := Arv.set Ar49 q49 S49 N49 H49 G49 (fits_nar_char _) W51 0 rfl (Nat.le_of_ble_eq_true rfl)
        refine own_go (fun _ => XS.dup X51.here hx rfl (hb hby d1_60) rfl rfl) ?_
        show ∃ t o, Steps p.tables e below (T51.setTop (mkF m 61 #[.val (.int ml), .val (.int m0), .val (.int m1), .val (.int m2)] [(.ref b47), (.ref b47), (.ref b45), (.ref b45)])) t ∧ _
        refine own_go (fun _ => XS.iconst X51.here hx rfl (hb hby d1_61)) ?_
        refine own_go (fun _ => XS.iloadN X51.here hx rfl (hb hby d1_62) rfl) ?_
        obtain ⟨cl55, Ar55, q55, S55, N55, H55, G55⟩ := id V51
        have sf56 := Safe.arr (EL := own_EL) hZ.alike Ar55 (by decide)
        have hin55 : ¬ ((1 : Int32) < 0 ∨ cl55.slots.size ≤ ((1 : Int32)).toNatClampNeg) := inb_of S55 ⟨by decide, by decide⟩
        obtain ⟨T57, h57, X57, e57, W57, st57⟩ := stC X51 hx hZ e51 Ar55 (j := (1 : Int32)) hin55 (g := (mkF m 63 #[.val (.int ml), .val (.int m0), .val (.int m1), .val (.int m2)] [(.int m1), (.int (1 : Int32)), (.ref b47), (.ref b47), (.ref b45), (.ref b45)])) rfl rfl (hb hby d1_63)
        refine own_go st57 ?_
        have CH58 := CHr.trans CH52 (CHr.wr W57 sf56 CH52.1)
        have le_57 : h51.size ≤ h57.size := Nat.le_of_eq W57.size.symm
        have K57 : Keep h0 h57 [] := Keep.wr K51 W57 (Or.inr sz54)
        have N57 := Fr.snoc X57 N51 ge53
        have V57 : Arv Z h57 b47 k47 .char (3 : Int32) [(.int (nar .char m0)), (.int (nar .char m1)), (.int (0 : Int32))] (.int (0 : Int32)) := Arv.set Ar55 q55 S55 N55 H55 G55 (fits_nar_char _) W57 1 rfl (Nat.le_of_ble_eq_true rfl)
        show ∃ t o, Steps p.tables e below (T57.setTop (mkF m 64 #[.val (.int ml), .val (.int m0), .val (.int m1), .val (.int m2)] [(.ref b47), (.ref b45), (.ref b45)])) t ∧ _
        refine own_go (fun _ => XS.dup X57.here hx rfl (hb hby d1_64) rfl rfl) ?_
        refine own_go (fun _ => XS.iconst X57.here hx rfl (hb hby d1_65)) ?_
        refine own_go (fun _ => XS.iloadN X57.here hx rfl (hb hby d1_66) rfl) ?_
        show ∃ t o, Steps p.tables e below (T57.setTop (mkF m 67 #[.val (.int ml), .val (.int m0), .val (.int m1), .val (.int m2)] [(.int m2), (.int (2 : Int32)), (.ref b47), (.ref b47), (.ref b45), (.ref b45)])) t ∧ _
        obtain ⟨cl59, Ar59, q59, S59, N59, H59, G59⟩ := id V57
        have sf60 := Safe.arr (EL := own_EL) hZ.alike Ar59 (by decide)
        have hin59 : ¬ ((2 : Int32) < 0 ∨ cl59.slots.size ≤ ((2 : Int32)).toNatClampNeg) := inb_of S59 ⟨by decide, by decide⟩
        obtain ⟨T61, h61, X61, e61, W61, st61⟩ := stC X57 hx hZ e57 Ar59 (j := (2 : Int32)) hin59 (g := (mkF m 67 #[.val (.int ml), .val (.int m0), .val (.int m1), .val (.int m2)] [(.int m2), (.int (2 : Int32)), (.ref b47), (.ref b47), (.ref b45), (.ref b45)])) rfl rfl (hb hby d1_67)
        refine own_go st61 ?_
        have CH62 := CHr.trans CH58 (CHr.wr W61 sf60 CH58.1)
        have le_61 : h57.size ≤ h61.size := Nat.le_of_eq W61.size.symm
        have K61 : Keep h0 h61 [] := Keep.wr K57 W61 (Or.inr sz54)
        have N61 := Fr.snoc X61 N57 ge53
        have V61 : Arv Z h61 b47 k47 .char (3 : Int32) [(.int (nar .char m0)), (.int (nar .char m1)), (.int (nar .char m2))] (.int (0 : Int32)) := Arv.set Ar59 q59 S59 N59 H59 G59 (fits_nar_char _) W61 2 rfl (Nat.le_of_ble_eq_true rfl)
        show ∃ t o, Steps p.tables e below (T61.setTop (mkF m 68 #[.val (.int ml), .val (.int m0), .val (.int m1), .val (.int m2)] [(.ref b47), (.ref b45), (.ref b45)])) t ∧ _
        have hws : ∀ d ∈ StrChars.Road.words, d.before a0 Z = true := fun d hd => hw d ((by decide +kernel : ∀ d ∈ StrChars.Road.words, d ∈ tables_1) d hd)
        have hp63 : ∀ c ∈ ([(nar .char m0), (nar .char m1), (nar .char m2)] : List Int32), ¬ c < 0 ∧ ¬ (255 : Int32) < c := (own_allS (own_rgn rg0) (own_allS (own_rgn rg1) (own_allS (own_rgn rg2) own_all0)))
        have F64 : Exa Z h61 b45 "java/lang/String" := (Exa.wr W61 (Exa.wr W57 (Exa.wr W51 (Exa.ext E47 A45))))
        have ne65 : b45 ≠ b47 := own_ne (by omega)
        have F66 : Fld Z h61 b45 "java/lang/String" "value" "[B" .null := (Fld.other W61 (Fld.other W57 (Fld.other W51 (Fld.ext E47 F_value_b45) (Or.inl ne65)) (Or.inl ne65)) (Or.inl ne65))
        have F67 : Fld Z h61 b45 "java/lang/String" "coder" "B" (.int (0 : Int32)) := (Fld.other W61 (Fld.other W57 (Fld.other W51 (Fld.ext E47 F_coder_b45) (Or.inl ne65)) (Or.inl ne65)) (Or.inl ne65))
        have F68 : Old Z n0 h61 := (Old.wr (Old.wr (Old.wr ((OLD.ext E45).ext E47) W51 ge53) W57 ge53) W61 ge53)
        have zl69 : n0 ≤ h61.size := by omega
        have ge70 : n0 ≤ b45 := by omega
        have sf71 := own_safe_null (EL := own_EL) hZ.alike F64 F66
        obtain ⟨_, _, ⟨T63, L63, k63, n63⟩, -, X63, ⟨Lc63, hQ63, l63, y63, z63⟩, st63⟩ := X61.specialBack hx (y := (⟨"java/lang/String", "<init>", "([C)V"⟩ : MethodName)) rfl hown (mvT hZ (hw _ (List.mem_of_getElem? (i := 8) rfl))) (mvT hZ (hw _ (List.mem_of_getElem? (i := 9) rfl))) (mvT hZ (hw _ (List.mem_of_getElem? (i := 10) rfl))) (by decide) (StrChars.Road.backV (W := 1) hZ hws (kI := 4) (hw _ (List.mem_of_getElem? (i := 5) rfl)) (cs := ([(nar .char m0), (nar .char m1), (nar .char m2)] : List Int32)) (bs := (([(nar .char m0), (nar .char m1), (nar .char m2)] : List Int32)).map (fun c => c.toInt8.toInt32)) (n := 3) ge70 zl69 F64 F66 F67 V61 (Sta.ext F68.2 P1) hzc rfl rfl (by decide) (by decide) hp63 rfl (by decide) (by decide)) (g := (mkF m 68 #[.val (.int ml), .val (.int m0), .val (.int m1), .val (.int m2)] [(.ref b47), (.ref b45), (.ref b45)])) rfl (by rw [hml]; rfl) (Steps.refl _) (a := b45) (argsL := [(.ref b47)]) (rest := [(.ref b45)]) (lenOf pd__28_5bC_29V rfl) rfl (by show 2 * 0 + _ ≤ _; exact Nat.le_of_eq rfl) (hb hby d1_68) (fun _ _ => ⟨rfl, e61, (by decide : 2 + 1 ≤ _), (by decide : 7 + 3 ≤ _)⟩)
        dsimp only [Pt.U, Pt.locs, Pt.cells, Pt.slots] at X63 l63 y63 z63 st63 hQ63
        subst l63 y63 z63
        obtain ⟨rfl, Nq63, Kp63, G63_0, G63_1, t63, kb63, u63_1, u63_2, u63_3, G63_2, G63_3⟩ := hQ63
        have N63 := Fr.app N61 Nq63
        refine own_goT st63 ?_
        have le_63 : h61.size ≤ T63.heap.size := Kp63.1
        have sz72 : h0.size ≤ b45 := by omega
        have K63 : Keep h0 T63.heap [] := Keep.trans K61 Kp63 (allS (Or.inr sz72) all0)
        have CH73 := CHr.trans CH62 (CHr.keep Kp63 (allS sf71 all0) CH62.1)
        have G63_4 : Arv Z T63.heap t63 kb63 .byte (3 : Int32) [(.int ((nar .char m0).toInt8.toInt32)), (.int ((nar .char m1).toInt8.toInt32)), (.int ((nar .char m2).toInt8.toInt32))] (.int (0 : Int32)) := G63_3
        have lt_t63 : (t63 : Nat) < T63.heap.size := G63_3.lt
        show ∃ t o, Steps p.tables e below (T63.setTop (mkF m 71 #[.val (.int ml), .val (.int m0), .val (.int m1), .val (.int m2)] [(.ref b45)])) t ∧ _
        obtain ⟨fs, hr, hrun, hended, hW⟩ := Jvm.Stand.leaveW X63 hS (Nat.zero_le _) (v := some (.ref b45)) (fun h => by rw [Bd.returns] at h; cases h)
        have CHz : CHr Z own_EL s.vm s.heap T63.vm T63.heap := by rw [hh]; exact CHr.trans CH73 (CHv.at X63 hZ hEL CH73.1)
        refine ⟨_, _, ?_, hrun, hended, _, _, rfl, ?_, CHz, ⟨hW.1, hW.2.1, hW.2.2.1, hW.2.2.2.mono (by decide) (by decide)⟩⟩
        · jvm_step X63.here [X63.here.top, hx, (hb hby d1_71), X63.method', Bd.returns, Value.isRef, FieldType.isReference]
          first | (intro acts; rw [hr _ acts rfl rfl rfl]) | rw [hr _ _ rfl rfl rfl]
          exact Steps.refl _
        · show Q_rmMk Z _ _ _ _ _ h0 n0 _ T63.heap _
          exact ⟨b45, t63, kb63, (3 : Int32), [(.int ((nar .char m0).toInt8.toInt32)), (.int ((nar .char m1).toInt8.toInt32)), (.int ((nar .char m2).toInt8.toInt32))], rfl, N63, K63, G63_0, G63_2, G63_1, G63_4, (by show (3 : Int32).toInt = _; rfl), (by unfold own_vs; rw [if_neg hc2, if_neg hc16, if_neg hc19]; simp only [own_narc rg0, own_narc rg1, own_narc rg2]), (((hm4.resolve_left hc2).resolve_left hc16).resolve_left hc19).symm, (by omega)⟩
theorem ef_rmRq (m : MethodId) (x0 : Nat) (x1 : Nat) : entryFrame m #[(.ref x0), (.ref x1)] 2 = mkF m 0 #[.val (.ref x0), .val (.ref x1)] [] := by first | (simp [entryFrame, mkF, argsToLocals, Value.category]; done) | rfl
theorem d6_0 : decode jdk_31_method_11_code 0 = .ok (.aload_n 0, 1) := by decide +kernel
theorem d6_1 : decode jdk_31_method_11_code 1 = .ok (.ifnonnull 12, 3) := by decide +kernel
theorem d6_13 : decode jdk_31_method_11_code 13 = .ok (.aload_n 0, 1) := by decide +kernel
theorem d6_14 : decode jdk_31_method_11_code 14 = .ok (.areturn, 1) := by decide +kernel
theorem pn_java_util_Objects : plainName "java/util/Objects" = true := by first | (simp [plainName, overriddenIn]; done) | decide +kernel
def Q_rmRq (Z : State) (o1 : Nat) (o2 : Nat) (h0 : Heap) (n0 : Nat) (v : Option Value) (h : Heap) (L : List Loc) : Prop := v = some (.ref o1) ∧ Fr n0 L ∧ h = h0
set_option maxRecDepth 65536 in
set_option maxHeartbeats 40000000 in
theorem rmRq (l : Launch) (Z : State) (a0 : Array Value) (hw : ∀ d ∈ tables_1, d.before a0 Z = true) (ws : List Jvm.Cond) (o1 : Nat) (o2 : Nat) (h0 : Heap) (n0 : Nat) (Z0 : n0 ≤ h0.size) (OLD : Old Z n0 h0) :
    MetFree l (⟨"java/util/Objects", "requireNonNull", "(Ljava/lang/Object;Ljava/lang/String;)Ljava/lang/Object;"⟩ : MethodName) (head1 (Jvm.Cond.code (⟨"java/util/Objects", "requireNonNull", "(Ljava/lang/Object;Ljava/lang/String;)Ljava/lang/Object;"⟩ : MethodName) jdk_31_method_11_code 2 (some (.object "java/lang/Object")) :: ws) ({ frames := 0, cells := 0, slots := 0, locals := 0 } : Room)) (fun a U => a = #[(.ref o1), (.ref o2)] ∧ Z.Warmed39 U.vm ∧ U.heap = h0) (fun _ _ _ _ _ => True) (fun _ U o U' => ∃ v L, o = .returned v ∧ Q_rmRq Z o1 o2 h0 n0 v U'.heap L ∧ FrameEnd U o U' L ({ frames := 0, cells := 0, slots := 0, locals := 0 } : Room).cells ({ frames := 0, cells := 0, slots := 0, locals := 0 } : Room).slots) := by
  refine MetFree.of_bodySF (plainFor_of_name pn_java_util_Objects) hisR ?_
  intro p e s m args below meth c s₁ Bd hml0 hP hK
  obtain ⟨rfl, hZ, hh⟩ := hP
  have hx := Bd.exec
  have hby := Bd.bytes
  have hml : c.maxLocals = 2 := hml0
  have hown : s.vm.findClass "java/util/Objects" = some m.cls := findClass_of_methodNamed Bd.named
  have hnm := (name_of_methodNamed Bd.named Bd.method).1
  have X0 : Stand p l e ({ frames := 0, cells := 0, slots := 0, locals := 0 } : Room) s m #[(.ref o1), (.ref o2)] below meth c s₁ [] 0 0 := Stand.of_body Bd
  have e0 : s₁.heap = h0 := by rw [← hh, Bd.state]; rfl
  have N0 := Fr.nil n0
  have pre0 : ∀ t, Steps p.tables e below (s₁.setTop (mkF m 0 #[.val (.ref o1), .val (.ref o2)] [])) t → Steps p.tables e below (s₁.setTop (entryFrame m #[(.ref o1), (.ref o2)] 2)) t := fun t k => castTop (ef_rmRq m o1 o2) k
  have oz := OLD.1
  refine own_go (B := s₁.setTop (mkF m 0 #[.val (.ref o1), .val (.ref o2)] [])) pre0 ?_
  show ∃ t o, Steps p.tables e below (s₁.setTop (mkF m 0 #[.val (.ref o1), .val (.ref o2)] [])) t ∧ _
  refine own_go (fun _ => XS.aloadN X0.here hx rfl (hb hby d6_0) rfl rfl) ?_
  show ∃ t o, Steps p.tables e below (s₁.setTop (mkF m 1 #[.val (.ref o1), .val (.ref o2)] [(.ref o1)])) t ∧ _
  refine own_go (fun _ => XS.ifnonnullYes X0.here hx rfl (pc0 := 1) (pc' := 13) rfl (hb hby d6_1) rfl (by decide) (by decide)) ?_
  refine own_go (fun _ => XS.aloadN X0.here hx rfl (hb hby d6_13) rfl rfl) ?_
  show ∃ t o, Steps p.tables e below (s₁.setTop (mkF m 14 #[.val (.ref o1), .val (.ref o2)] [(.ref o1)])) t ∧ _
  obtain ⟨fs, hr, hrun, hended, hW, hsame⟩ := X0.leave (v := some (.ref o1)) (fun h => by rw [Bd.returns] at h; cases h)
  refine ⟨_, _, ?_, hrun, hended, _, _, rfl, ?_, ⟨_, rfl⟩, hW, hsame.mono (by decide) (by decide)⟩
  · jvm_step X0.here [X0.here.top, hx, (hb hby d6_14), X0.method', Bd.returns, Value.isRef, FieldType.isReference]
    first | (intro acts; rw [hr _ acts rfl rfl rfl]) | rw [hr _ _ rfl rfl rfl]
    exact Steps.refl _
  · show Q_rmRq Z _ _ h0 n0 _ s₁.heap _
    rw [e0]
    exact ⟨rfl, N0, rfl⟩
theorem ef_rmJI (m : MethodId) (x0 : Nat) (x1 : Nat) (x2 : Nat) : entryFrame m #[(.ref x0), (.ref x1), (.ref x2)] 3 = mkF m 0 #[.val (.ref x0), .val (.ref x1), .val (.ref x2)] [] := by first | (simp [entryFrame, mkF, argsToLocals, Value.category]; done) | rfl
theorem d5_0 : decode prog_27_method_1_code 0 = .ok (.aload_n 0, 1) := by decide +kernel
theorem d5_1 : decode prog_27_method_1_code 1 = .ok (.invokespecial 1, 3) := by decide +kernel
theorem d5_4 : decode prog_27_method_1_code 4 = .ok (.aload_n 0, 1) := by decide +kernel
theorem d5_5 : decode prog_27_method_1_code 5 = .ok (.aload_n 1, 1) := by decide +kernel
theorem d5_6 : decode prog_27_method_1_code 6 = .ok (.ldc 7, 2) := by decide +kernel
theorem d5_8 : decode prog_27_method_1_code 8 = .ok (.invokestatic 9, 3) := by decide +kernel
theorem pd_hb4046d0a : parseMethodDescriptor "(Ljava/lang/Object;Ljava/lang/String;)Ljava/lang/Object;" = some ⟨[(.object "java/lang/Object"), (.object "java/lang/String")], some (.object "java/lang/Object")⟩ := by decide +kernel
theorem d5_11 : decode prog_27_method_1_code 11 = .ok (.checkcast 15, 3) := by decide +kernel
theorem d5_14 : decode prog_27_method_1_code 14 = .ok (.putfield 17, 3) := by decide +kernel
theorem d5_17 : decode prog_27_method_1_code 17 = .ok (.aload_n 0, 1) := by decide +kernel
theorem d5_18 : decode prog_27_method_1_code 18 = .ok (.aload_n 2, 1) := by decide +kernel
theorem d5_19 : decode prog_27_method_1_code 19 = .ok (.ldc 22, 2) := by decide +kernel
theorem d5_21 : decode prog_27_method_1_code 21 = .ok (.invokestatic 9, 3) := by decide +kernel
theorem d5_24 : decode prog_27_method_1_code 24 = .ok (.checkcast 15, 3) := by decide +kernel
theorem d5_27 : decode prog_27_method_1_code 27 = .ok (.putfield 24, 3) := by decide +kernel
theorem d5_30 : decode prog_27_method_1_code 30 = .ok (.return_, 1) := by decide +kernel
theorem pn_com_example_ipomoea_ipomoea_store_JobKey : plainName "com/example/ipomoea/ipomoea/store/JobKey" = true := by first | (simp [plainName, overriddenIn]; done) | decide +kernel
def Q_rmJI (Z : State) (a1 : Nat) (c1 : Nat) (d1 : Nat) (h0 : Heap) (n0 : Nat) (v : Option Value) (h : Heap) (L : List Loc) : Prop := v = none ∧ Fr n0 L ∧ Keep h0 h [a1] ∧ Exa Z h a1 "com/example/ipomoea/ipomoea/store/JobKey" ∧ Fld Z h a1 "com/example/ipomoea/ipomoea/store/JobKey" "collection" "Ljava/lang/String;" (.ref c1) ∧ Fld Z h a1 "com/example/ipomoea/ipomoea/store/JobKey" "name" "Ljava/lang/String;" (.ref d1)
set_option maxRecDepth 65536 in
set_option maxHeartbeats 40000000 in
theorem rmJI (l : Launch) (Z : State) (a0 : Array Value) (hw : ∀ d ∈ tables_1, d.before a0 Z = true) (ws : List Jvm.Cond) (a1 : Nat) (c1 : Nat) (d1 : Nat) (h0 : Heap) (n0 : Nat) (Z0 : n0 ≤ h0.size) (P1 : Exa Z h0 a1 "com/example/ipomoea/ipomoea/store/JobKey") (P2 : Fld Z h0 a1 "com/example/ipomoea/ipomoea/store/JobKey" "collection" "Ljava/lang/String;" .null) (P3 : Fld Z h0 a1 "com/example/ipomoea/ipomoea/store/JobKey" "name" "Ljava/lang/String;" .null) (P4 : Exa Z h0 c1 "java/lang/String") (P5 : Exa Z h0 d1 "java/lang/String") (OLD : Old Z n0 h0) (ga : n0 ≤ a1) (hEL : EW Z a0 own_EL) :
    MetFree l (⟨"com/example/ipomoea/ipomoea/store/JobKey", "<init>", "(Ljava/lang/String;Ljava/lang/String;)V"⟩ : MethodName) (head1 (Jvm.Cond.code (⟨"com/example/ipomoea/ipomoea/store/JobKey", "<init>", "(Ljava/lang/String;Ljava/lang/String;)V"⟩ : MethodName) prog_27_method_1_code 3 none :: ws) ({ frames := 1, cells := 4, slots := 64, locals := 14 } : Room)) (fun a U => a = #[(.ref a1), (.ref c1), (.ref d1)] ∧ Z.Warmed39 U.vm ∧ U.heap = h0 ∧ CHv Z own_EL U.vm h0) (fun _ _ _ _ _ => True) (fun _ U o U' => ∃ v L, o = .returned v ∧ Q_rmJI Z a1 c1 d1 h0 n0 v U'.heap L ∧ CHr Z own_EL U.vm U.heap U'.vm U'.heap ∧ ReturnedEndW U o U' L ({ frames := 1, cells := 4, slots := 64, locals := 14 } : Room).cells ({ frames := 1, cells := 4, slots := 64, locals := 14 } : Room).slots) := by
  refine MetFree.of_bodySF (plainFor_of_name pn_com_example_ipomoea_ipomoea_store_JobKey) hisR ?_
  intro p e s m args below meth c s₁ Bd hml0 hP hK
  obtain ⟨rfl, hZ, hh, hCH⟩ := hP
  have hx := Bd.exec
  have hby := Bd.bytes
  have hml : c.maxLocals = 3 := hml0
  have hown : s.vm.findClass "com/example/ipomoea/ipomoea/store/JobKey" = some m.cls := findClass_of_methodNamed Bd.named
  have hnm := (name_of_methodNamed Bd.named Bd.method).1
  have X0 : Stand p l e ({ frames := 1, cells := 4, slots := 64, locals := 14 } : Room) (s.setVm s.vm) m #[(.ref a1), (.ref c1), (.ref d1)] below meth c s₁ [] 0 0 := Stand.of_body Bd
  have e0 : s₁.heap = h0 := by rw [← hh, Bd.state]; rfl
  have N0 := Fr.nil n0
  have pre0 : ∀ t, Steps p.tables e below (s₁.setTop (mkF m 0 #[.val (.ref a1), .val (.ref c1), .val (.ref d1)] [])) t → Steps p.tables e below (s₁.setTop (entryFrame m #[(.ref a1), (.ref c1), (.ref d1)] 3)) t := fun t k => castTop (ef_rmJI m a1 c1 d1) k
  have hZ : Z.Warmed39 (s.setVm s.vm).vm := hZ
  have hown : (s.setVm s.vm).vm.findClass "com/example/ipomoea/ipomoea/store/JobKey" = some m.cls := hown
  have hS : s.Since s.vm 0 := (State.WarmedH.refl s).since 0
  have CH0 : CHr Z own_EL s.vm h0 s.vm h0 := CHr.refl hCH
  have wS : ∀ a ∈ Bundle.stringAtoms, a.before a0 Z = true := fun d hd => hw d ((by decide +kernel : ∀ d ∈ Bundle.stringAtoms, d ∈ tables_1) d hd)
  have oz := OLD.1
  have lt_a1 : a1 < h0.size := P1.lt
  have lt_c1 : c1 < h0.size := P4.lt
  have lt_d1 : d1 < h0.size := P5.lt
  refine own_go (B := s₁.setTop (mkF m 0 #[.val (.ref a1), .val (.ref c1), .val (.ref d1)] [])) pre0 ?_
  show ∃ t o, Steps p.tables e below (s₁.setTop (mkF m 0 #[.val (.ref a1), .val (.ref c1), .val (.ref d1)] [])) t ∧ _
  refine own_go (fun _ => XS.aloadN X0.here hx rfl (hb hby d5_0) rfl rfl) ?_
  show ∃ t o, Steps p.tables e below (s₁.setTop (mkF m 1 #[.val (.ref a1), .val (.ref c1), .val (.ref d1)] [(.ref a1)])) t ∧ _
  obtain ⟨T6, X6, e6, st6⟩ := initO X0 hx hZ hown (hw _ (List.mem_of_getElem? (i := 32) rfl)) (hw _ (List.mem_of_getElem? (i := 16) rfl)) (hw _ (List.mem_of_getElem? (i := 17) rfl)) e0 (g := (mkF m 1 #[.val (.ref a1), .val (.ref c1), .val (.ref d1)] [(.ref a1)])) rfl (by rw [hml]; rfl) rfl (hb hby d5_1) (by decide) (W := 0) (by show 2 * 0 + _ ≤ _; exact Nat.le_of_eq rfl) (by decide)
  refine own_go st6 ?_
  refine own_go (fun _ => XS.aloadN X6.here hx rfl (hb hby d5_4) rfl rfl) ?_
  refine own_go (fun _ => XS.aloadN X6.here hx rfl (hb hby d5_5) rfl rfl) ?_
  show ∃ t o, Steps p.tables e below (T6.setTop (mkF m 6 #[.val (.ref a1), .val (.ref c1), .val (.ref d1)] [(.ref c1), (.ref a1)])) t ∧ _
  obtain ⟨a7, T7, h7, kS7, X7, e7, E7, hS, hk7, hZ, hown, cr7, -, st7⟩ := ldcOH X6 hx hZ hown (hw _ (List.mem_of_getElem? (i := 33) rfl)) wS e6 hS (Nat.zero_le _) hEL CH0.1 (g := (mkF m 6 #[.val (.ref a1), .val (.ref c1), .val (.ref d1)] [(.ref c1), (.ref a1)])) rfl (hb hby d5_6) (n := 40) (by decide) (by decide) (by decide) (by decide)
  refine own_go st7 ?_
  have K7 : Keep h0 h7 [a1] := Keep.ext (Keep.refl h0 [a1]) E7
  have le_7 : h0.size ≤ h7.size := E7.1
  have CH8 := CHr.trans CH0 cr7
  show ∃ t o, Steps p.tables e below (T7.setTop (mkF m 8 #[.val (.ref a1), .val (.ref c1), .val (.ref d1)] [(.ref a7), (.ref c1), (.ref a1)])) t ∧ _
  have F9 : Old Z n0 h7 := (OLD.ext E7)
  have zl10 : n0 ≤ h7.size := by omega
  obtain ⟨_, _, ⟨T11, L11, k11, n11⟩, -, X11, ⟨Lc11, hQ11, l11, y11, z11⟩, st11⟩ := Jvm.LawKit.callS X7 hx (y := (⟨"java/util/Objects", "requireNonNull", "(Ljava/lang/Object;Ljava/lang/String;)Ljava/lang/Object;"⟩ : MethodName)) hown (mvT hZ (hw _ (List.mem_of_getElem? (i := 34) rfl))) (mvT hZ (hw _ (List.mem_of_getElem? (i := 35) rfl))) (mvT hZ (hw _ (List.mem_of_getElem? (i := 36) rfl))) (mvT hZ (hw _ (List.mem_of_getElem? (i := 37) rfl))) (by decide) (backOf (W := 1) (rmRq l Z a0 hw [] c1 a7 h7 n0 zl10 F9) hZ (hw _ (List.mem_of_getElem? (i := 37) rfl)) (hw _ (List.mem_of_getElem? (i := 36) rfl)) (by decide) (by decide)) (g := (mkF m 8 #[.val (.ref a1), .val (.ref c1), .val (.ref d1)] [(.ref a7), (.ref c1), (.ref a1)])) rfl (by rw [hml]; rfl) (argsL := [(.ref c1), (.ref a7)]) (rest := [(.ref a1)]) (lenOf pd_hb4046d0a rfl) rfl (by show 2 * 0 + _ ≤ _; exact Nat.le_of_eq rfl) (hb hby d5_8) (fun _ _ => ⟨rfl, e7, (by decide : 2 + 0 ≤ _), (by decide : 44 + 0 ≤ _)⟩)
  dsimp only [Pt.U, Pt.locs, Pt.cells, Pt.slots] at X11 l11 y11 z11 st11 hQ11
  rw [l11, y11, z11] at X11
  obtain ⟨rfl, Nq11, e11⟩ := hQ11
  have N11 := Fr.app N0 Nq11
  refine own_go st11 ?_
  have F12 : Exa Z h7 c1 "java/lang/String" := (Exa.ext E7 P4)
  obtain ⟨T13, X13, e13, st13⟩ := castY X11 hx hZ hown (hw _ (List.mem_of_getElem? (i := 38) rfl)) e11 (Ins.self F12) (g := (mkF m 11 #[.val (.ref a1), .val (.ref c1), .val (.ref d1)] [(.ref c1), (.ref a1)])) rfl rfl (hb hby d5_11)
  refine own_go st13 ?_
  have F14 : Exa Z h7 a1 "com/example/ipomoea/ipomoea/store/JobKey" := (Exa.ext E7 P1)
  have F15 : Fld Z h7 a1 "com/example/ipomoea/ipomoea/store/JobKey" "collection" "Ljava/lang/String;" .null := (Fld.ext E7 P2)
  have sf16 := Safe.exa (EL := own_EL) hZ.alike F14 (by decide) (by decide)
  obtain ⟨T17, h17, X17, e17, W17, st17⟩ := putF X13 hx hZ hown (host := "") (Or.inl (hw _ (List.mem_of_getElem? (i := 39) rfl))) Via.refl e13 F15 F14 (Or.inr ⟨(hw _ (List.mem_of_getElem? (i := 40) rfl)), rfl, hnm⟩) (hw _ (List.mem_of_getElem? (i := 27) rfl)) (ty := (.object "java/lang/String")) (by decide) rfl rfl (g := (mkF m 14 #[.val (.ref a1), .val (.ref c1), .val (.ref d1)] [(.ref c1), (.ref a1)])) rfl rfl (hb hby d5_14)
  refine own_go st17 ?_
  have CH18 := CHr.trans CH8 (CHr.wr W17 sf16 CH8.1)
  have le_17 : h7.size ≤ h17.size := Nat.le_of_eq W17.size.symm
  have K17 : Keep h0 h17 [a1] := Keep.wr K7 W17 (Or.inl (List.mem_of_getElem? (i := 0) rfl))
  have N17 := Fr.snoc X17 N11 ga
  have Fw17 := Fld.same W17 F15
  show ∃ t o, Steps p.tables e below (T17.setTop (mkF m 17 #[.val (.ref a1), .val (.ref c1), .val (.ref d1)] [])) t ∧ _
  refine own_go (fun _ => XS.aloadN X17.here hx rfl (hb hby d5_17) rfl rfl) ?_
  refine own_go (fun _ => XS.aloadN X17.here hx rfl (hb hby d5_18) rfl rfl) ?_
  obtain ⟨a19, T19, h19, kS19, X19, e19, E19, hS, hk19, hZ, hown, cr19, -, st19⟩ := ldcOH X17 hx hZ hown (hw _ (List.mem_of_getElem? (i := 41) rfl)) wS e17 hS (by omega) hEL CH18.1 (g := (mkF m 19 #[.val (.ref a1), .val (.ref c1), .val (.ref d1)] [(.ref d1), (.ref a1)])) rfl (hb hby d5_19) (n := 16) (by decide) (by decide) (by decide) (by decide)
  refine own_go st19 ?_
  have K19 : Keep h0 h19 [a1] := Keep.ext K17 E19
  have le_19 : h17.size ≤ h19.size := E19.1
  have CH20 := CHr.trans CH18 cr19
  show ∃ t o, Steps p.tables e below (T19.setTop (mkF m 21 #[.val (.ref a1), .val (.ref c1), .val (.ref d1)] [(.ref a19), (.ref d1), (.ref a1)])) t ∧ _
  have F21 : Old Z n0 h19 := ((Old.wr F9 W17 ga).ext E19)
  have zl22 : n0 ≤ h19.size := by omega
  obtain ⟨_, _, ⟨T23, L23, k23, n23⟩, -, X23, ⟨Lc23, hQ23, l23, y23, z23⟩, st23⟩ := Jvm.LawKit.callS X19 hx (y := (⟨"java/util/Objects", "requireNonNull", "(Ljava/lang/Object;Ljava/lang/String;)Ljava/lang/Object;"⟩ : MethodName)) hown (mvT hZ (hw _ (List.mem_of_getElem? (i := 34) rfl))) (mvT hZ (hw _ (List.mem_of_getElem? (i := 35) rfl))) (mvT hZ (hw _ (List.mem_of_getElem? (i := 36) rfl))) (mvT hZ (hw _ (List.mem_of_getElem? (i := 37) rfl))) (by decide) (backOf (W := 1) (rmRq l Z a0 hw [] d1 a19 h19 n0 zl22 F21) hZ (hw _ (List.mem_of_getElem? (i := 37) rfl)) (hw _ (List.mem_of_getElem? (i := 36) rfl)) (by decide) (by decide)) (g := (mkF m 21 #[.val (.ref a1), .val (.ref c1), .val (.ref d1)] [(.ref a19), (.ref d1), (.ref a1)])) rfl (by rw [hml]; rfl) (argsL := [(.ref d1), (.ref a19)]) (rest := [(.ref a1)]) (lenOf pd_hb4046d0a rfl) rfl (by show 2 * 0 + _ ≤ _; exact Nat.le_of_eq rfl) (hb hby d5_21) (fun _ _ => ⟨rfl, e19, (by decide : 4 + 0 ≤ _), (by decide : 64 + 0 ≤ _)⟩)
  dsimp only [Pt.U, Pt.locs, Pt.cells, Pt.slots] at X23 l23 y23 z23 st23 hQ23
  rw [l23, y23, z23] at X23
  obtain ⟨rfl, Nq23, e23⟩ := hQ23
  have N23 := Fr.app N17 Nq23
  refine own_go st23 ?_
  have F24 : Exa Z h19 d1 "java/lang/String" := (Exa.ext E19 (Exa.wr W17 (Exa.ext E7 P5)))
  obtain ⟨T25, X25, e25, st25⟩ := castY X23 hx hZ hown (hw _ (List.mem_of_getElem? (i := 38) rfl)) e23 (Ins.self F24) (g := (mkF m 24 #[.val (.ref a1), .val (.ref c1), .val (.ref d1)] [(.ref d1), (.ref a1)])) rfl rfl (hb hby d5_24)
  refine own_go st25 ?_
  have F26 : Exa Z h19 a1 "com/example/ipomoea/ipomoea/store/JobKey" := (Exa.ext E19 (Exa.wr W17 F14))
  have F27 : Fld Z h19 a1 "com/example/ipomoea/ipomoea/store/JobKey" "name" "Ljava/lang/String;" .null := (Fld.ext E19 (Fld.other W17 (Fld.ext E7 P3) (Or.inr (slot_ne (a0 := a0) (Or.inr (hw _ (List.mem_of_getElem? (i := 43) rfl))) (Or.inr (hw _ (List.mem_of_getElem? (i := 40) rfl))) (by decide) (t := (.object "java/lang/String")) (t' := (.object "java/lang/String")) (by decide) (by decide)))))
  have sf28 := Safe.exa (EL := own_EL) hZ.alike F26 (by decide) (by decide)
  obtain ⟨T29, h29, X29, e29, W29, st29⟩ := putF X25 hx hZ hown (host := "") (Or.inl (hw _ (List.mem_of_getElem? (i := 42) rfl))) Via.refl e25 F27 F26 (Or.inr ⟨(hw _ (List.mem_of_getElem? (i := 43) rfl)), rfl, hnm⟩) (hw _ (List.mem_of_getElem? (i := 27) rfl)) (ty := (.object "java/lang/String")) (by decide) rfl rfl (g := (mkF m 27 #[.val (.ref a1), .val (.ref c1), .val (.ref d1)] [(.ref d1), (.ref a1)])) rfl rfl (hb hby d5_27)
  refine own_go st29 ?_
  have CH30 := CHr.trans CH20 (CHr.wr W29 sf28 CH20.1)
  have le_29 : h19.size ≤ h29.size := Nat.le_of_eq W29.size.symm
  have K29 : Keep h0 h29 [a1] := Keep.wr K19 W29 (Or.inl (List.mem_of_getElem? (i := 0) rfl))
  have N29 := Fr.snoc X29 N23 ga
  have Fw29 := Fld.same W29 F27
  show ∃ t o, Steps p.tables e below (T29.setTop (mkF m 30 #[.val (.ref a1), .val (.ref c1), .val (.ref d1)] [])) t ∧ _
  have F31 : Exa Z h29 a1 "com/example/ipomoea/ipomoea/store/JobKey" := (Exa.wr W29 F26)
  have F32 : Fld Z h29 a1 "com/example/ipomoea/ipomoea/store/JobKey" "collection" "Ljava/lang/String;" (.ref c1) := (Fld.other W29 (Fld.ext E19 Fw17) (Or.inr (slot_ne (a0 := a0) (Or.inr (hw _ (List.mem_of_getElem? (i := 40) rfl))) (Or.inr (hw _ (List.mem_of_getElem? (i := 43) rfl))) (by decide) (t := (.object "java/lang/String")) (t' := (.object "java/lang/String")) (by decide) (by decide))))
  obtain ⟨fs, hr, hrun, hended, hW⟩ := Jvm.Stand.leaveW X29 hS (by rw [e29]; omega) (v := none) (fun _ => rfl)
  have CHz : CHr Z own_EL s.vm s.heap T29.vm T29.heap := by rw [hh, e29]; exact CHr.trans CH30 (CHv.at X29 hZ hEL CH30.1)
  refine ⟨_, _, ?_, hrun, hended, _, _, rfl, ?_, CHz, ⟨hW.1, hW.2.1, hW.2.2.1, hW.2.2.2.mono (by decide) (by decide)⟩⟩
  · exact X29.returnOut hx Bd.returns (hb hby d5_30) hr
  · show Q_rmJI Z _ _ _ h0 n0 _ T29.heap _
    rw [e29]
    exact ⟨rfl, N29, K29, F31, F32, Fw29⟩
theorem ef_rmJTs (m : MethodId) (x0 : Nat) : entryFrame m #[(.ref x0)] 1 = mkF m 0 #[.val (.ref x0)] [] := by first | (simp [entryFrame, mkF, argsToLocals, Value.category]; done) | rfl
theorem d7_0 : decode prog_27_method_7_code 0 = .ok (.new 44, 3) := by decide +kernel
theorem d7_3 : decode prog_27_method_7_code 3 = .ok (.dup, 1) := by decide +kernel
theorem d7_4 : decode prog_27_method_7_code 4 = .ok (.invokespecial 46, 3) := by decide +kernel
theorem pd__28_29V : parseMethodDescriptor "()V" = some ⟨[], none⟩ := by decide +kernel
theorem d7_7 : decode prog_27_method_7_code 7 = .ok (.aload_n 0, 1) := by decide +kernel
theorem d7_8 : decode prog_27_method_7_code 8 = .ok (.getfield 17, 3) := by decide +kernel
theorem d7_11 : decode prog_27_method_7_code 11 = .ok (.invokevirtual 47, 3) := by decide +kernel
theorem pd_h63c63b4d : parseMethodDescriptor "(Ljava/lang/String;)Ljava/lang/StringBuilder;" = some ⟨[(.object "java/lang/String")], some (.object "java/lang/StringBuilder")⟩ := by decide +kernel
theorem d7_14 : decode prog_27_method_7_code 14 = .ok (.ldc 51, 2) := by decide +kernel
theorem own_ct_2f : (∀ c ∈ "/".toList, c.toNat < 256) ∧ "/".toList.map (fun c => Value.int (Jvm.Lit.byteI c.toNat.toUInt16)) = [(.int (47 : Int32))] := ⟨by decide, by first | rfl | decide | (simp; decide)⟩
theorem d7_16 : decode prog_27_method_7_code 16 = .ok (.invokevirtual 47, 3) := by decide +kernel
theorem d7_19 : decode prog_27_method_7_code 19 = .ok (.aload_n 0, 1) := by decide +kernel
theorem d7_20 : decode prog_27_method_7_code 20 = .ok (.getfield 24, 3) := by decide +kernel
theorem d7_23 : decode prog_27_method_7_code 23 = .ok (.invokevirtual 47, 3) := by decide +kernel
theorem d7_26 : decode prog_27_method_7_code 26 = .ok (.invokevirtual 53, 3) := by decide +kernel
theorem pd__28_29Ljava_2flang_2fString_3b : parseMethodDescriptor "()Ljava/lang/String;" = some ⟨[], some (.object "java/lang/String")⟩ := by decide +kernel
theorem d7_29 : decode prog_27_method_7_code 29 = .ok (.areturn, 1) := by decide +kernel
def Q_rmJTs (Z : State) (a1 : Nat) (c1 : Nat) (d1 : Nat) (tc : Nat) (kc : ClassId) (nc : Int32) (uc : List Value) (td : Nat) (kd : ClassId) (nd : Int32) (ud : List Value) (zc : Int32) (h0 : Heap) (n0 : Nat) (v : Option Value) (h : Heap) (L : List Loc) : Prop := ∃ (b : Nat), ∃ (tb : Nat), ∃ (kb : ClassId), v = some (.ref b) ∧ Fr n0 L ∧ Keep h0 h [] ∧ Exa Z h b "java/lang/String" ∧ Fld Z h b "java/lang/String" "value" "[B" (.ref tb) ∧ Fld Z h b "java/lang/String" "coder" "B" (.int (0 : Int32)) ∧ Arv Z h tb kb .byte ((((0 : Int32) + nc) + (1 : Int32)) + nd) ((([] ++ uc) ++ [(Value.int (47 : Int32))]) ++ ud) (.int (0 : Int32)) ∧ (h0.size ≤ b)
set_option maxRecDepth 65536 in
set_option maxHeartbeats 40000000 in
theorem rmJTs (l : Launch) (Z : State) (a0 : Array Value) (hw : ∀ d ∈ tables_1, d.before a0 Z = true) (ws : List Jvm.Cond) (a1 : Nat) (c1 : Nat) (d1 : Nat) (tc : Nat) (kc : ClassId) (nc : Int32) (uc : List Value) (td : Nat) (kd : ClassId) (nd : Int32) (ud : List Value) (zc : Int32) (h0 : Heap) (n0 : Nat) (Z0 : n0 ≤ h0.size) (P1 : Exa Z h0 a1 "com/example/ipomoea/ipomoea/store/JobKey") (P2 : Fld Z h0 a1 "com/example/ipomoea/ipomoea/store/JobKey" "collection" "Ljava/lang/String;" (.ref c1)) (P3 : Fld Z h0 a1 "com/example/ipomoea/ipomoea/store/JobKey" "name" "Ljava/lang/String;" (.ref d1)) (P4 : Exa Z h0 c1 "java/lang/String") (P5 : Fld Z h0 c1 "java/lang/String" "value" "[B" (.ref tc)) (P6 : Fld Z h0 c1 "java/lang/String" "coder" "B" (.int (0 : Int32))) (P7 : Arv Z h0 tc kc .byte nc uc (.int (0 : Int32))) (P8 : Exa Z h0 d1 "java/lang/String") (P9 : Fld Z h0 d1 "java/lang/String" "value" "[B" (.ref td)) (P10 : Fld Z h0 d1 "java/lang/String" "coder" "B" (.int (0 : Int32))) (P11 : Arv Z h0 td kd .byte nd ud (.int (0 : Int32))) (OLD : Old Z n0 h0) (P12 : Sta Z Z.heap "java/lang/String" "COMPACT_STRINGS" "Z" (.int zc)) (hzc : ¬ (zc = (0 : Int32))) (fc : own_fit uc nc) (fd : own_fit ud nd) (hlc : uc.length ≤ 3) (hld : ud.length ≤ 3) (hEL : EW Z a0 own_EL) :
    MetFree l (⟨"com/example/ipomoea/ipomoea/store/JobKey", "toString", "()Ljava/lang/String;"⟩ : MethodName) (head1 (Jvm.Cond.code (⟨"com/example/ipomoea/ipomoea/store/JobKey", "toString", "()Ljava/lang/String;"⟩ : MethodName) prog_27_method_7_code 1 (some (.object "java/lang/String")) :: ws) ({ frames := 6, cells := 6, slots := 47, locals := 91 } : Room)) (fun a U => a = #[(.ref a1)] ∧ Z.Warmed39 U.vm ∧ U.heap = h0 ∧ CHv Z own_EL U.vm h0) (fun _ _ _ _ _ => True) (fun _ U o U' => ∃ v L, o = .returned v ∧ Q_rmJTs Z a1 c1 d1 tc kc nc uc td kd nd ud zc h0 n0 v U'.heap L ∧ CHr Z own_EL U.vm U.heap U'.vm U'.heap ∧ ReturnedEndW U o U' L ({ frames := 6, cells := 6, slots := 47, locals := 91 } : Room).cells ({ frames := 6, cells := 6, slots := 47, locals := 91 } : Room).slots) := by
  refine MetFree.of_bodySF (plainFor_of_name pn_com_example_ipomoea_ipomoea_store_JobKey) hisR ?_
  intro p e s m args below meth c s₁ Bd hml0 hP hK
  obtain ⟨rfl, hZ, hh, hCH⟩ := hP
  have hx := Bd.exec
  have hby := Bd.bytes
  have hml : c.maxLocals = 1 := hml0
  have hown : s.vm.findClass "com/example/ipomoea/ipomoea/store/JobKey" = some m.cls := findClass_of_methodNamed Bd.named
  have hnm := (name_of_methodNamed Bd.named Bd.method).1
  have X0 : Stand p l e ({ frames := 6, cells := 6, slots := 47, locals := 91 } : Room) (s.setVm s.vm) m #[(.ref a1)] below meth c s₁ [] 0 0 := Stand.of_body Bd
  have e0 : s₁.heap = h0 := by rw [← hh, Bd.state]; rfl
  have N0 := Fr.nil n0
  have pre0 : ∀ t, Steps p.tables e below (s₁.setTop (mkF m 0 #[.val (.ref a1)] [])) t → Steps p.tables e below (s₁.setTop (entryFrame m #[(.ref a1)] 1)) t := fun t k => castTop (ef_rmJTs m a1) k
  have hZ : Z.Warmed39 (s.setVm s.vm).vm := hZ
  have hown : (s.setVm s.vm).vm.findClass "com/example/ipomoea/ipomoea/store/JobKey" = some m.cls := hown
  have hS : s.Since s.vm 0 := (State.WarmedH.refl s).since 0
  have CH0 : CHr Z own_EL s.vm h0 s.vm h0 := CHr.refl hCH
  have wS : ∀ a ∈ Bundle.stringAtoms, a.before a0 Z = true := fun d hd => hw d ((by decide +kernel : ∀ d ∈ Bundle.stringAtoms, d ∈ tables_1) d hd)
  have oz := OLD.1
  have lt_a1 : a1 < h0.size := P1.lt
  have lt_c1 : c1 < h0.size := P4.lt
  have lt_d1 : d1 < h0.size := P8.lt
  have lt_tc : tc < h0.size := P7.lt
  have lt_td : td < h0.size := P11.lt
  refine own_go (B := s₁.setTop (mkF m 0 #[.val (.ref a1)] [])) pre0 ?_
  show ∃ t o, Steps p.tables e below (s₁.setTop (mkF m 0 #[.val (.ref a1)] [])) t ∧ _
  obtain ⟨T13, h13, X13, e13, E13, A13, D13, -, st13⟩ := newO X0 hx hZ hown (hw _ (List.mem_of_getElem? (i := 49) rfl)) (hw _ (List.mem_of_getElem? (i := 50) rfl)) (hw _ (List.mem_of_getElem? (i := 51) rfl)) e0 (g := (mkF m 0 #[.val (.ref a1)] [])) rfl (hb hby d7_0) (by decide) (by decide)
  obtain ⟨b13, g13⟩ : ∃ z, z = h0.size := ⟨_, rfl⟩
  rw [← g13] at A13 D13 st13
  refine own_go st13 ?_
  have le_13 : h0.size ≤ h13.size := E13.1
  have lt_b13 : b13 < h13.size := A13.lt
  have F_value_b13 : Fld Z h13 b13 "java/lang/AbstractStringBuilder" "value" "[B" .null := D13 (Or.inl (hw _ (List.mem_of_getElem? (i := 64) rfl))) (ty := (.array .byte)) (by decide)
  have F_coder_b13 : Fld Z h13 b13 "java/lang/AbstractStringBuilder" "coder" "B" (.int (0 : Int32)) := D13 (Or.inl (hw _ (List.mem_of_getElem? (i := 66) rfl))) (ty := .byte) (by decide)
  have F_count_b13 : Fld Z h13 b13 "java/lang/AbstractStringBuilder" "count" "I" (.int (0 : Int32)) := D13 (Or.inl (hw _ (List.mem_of_getElem? (i := 89) rfl))) (ty := .int) (by decide)
  have K13 : Keep h0 h13 [] := Keep.ext (Keep.refl h0 []) E13
  have CH14 := CHr.trans CH0 (CHr.ext E13 CH0.1)
  refine own_go (fun _ => XS.dup X13.here hx rfl (hb hby d7_3) rfl rfl) ?_
  have sf15 := Safe.exa (EL := own_EL) hZ.alike A13 (by decide) (by decide)
  show ∃ t o, Steps p.tables e below (T13.setTop (mkF m 4 #[.val (.ref a1)] [(.ref b13), (.ref b13)])) t ∧ _
  have F16 : Old Z n0 h13 := (OLD.ext E13)
  have ge17 : n0 ≤ b13 := by omega
  have zl18 : n0 ≤ h13.size := by omega
  have sf19 := Safe.exa (EL := own_EL) hZ.alike A13 (by decide) (by decide)
  obtain ⟨_, _, ⟨T20, L20, k20, n20⟩, -, X20, ⟨Lc20, hQ20, l20, y20, z20⟩, st20⟩ := X13.specialBack hx (y := (⟨"java/lang/StringBuilder", "<init>", "()V"⟩ : MethodName)) rfl hown (mvT hZ (hw _ (List.mem_of_getElem? (i := 52) rfl))) (mvT hZ (hw _ (List.mem_of_getElem? (i := 53) rfl))) (mvT hZ (hw _ (List.mem_of_getElem? (i := 54) rfl))) (by decide) (backOf (W := 1) (rmSBI l Z a0 hw [] b13 zc h13 n0 zl18 A13 F_value_b13 F_coder_b13 F_count_b13 F16 P12 hzc ge17) hZ (hw _ (List.mem_of_getElem? (i := 54) rfl)) (hw _ (List.mem_of_getElem? (i := 51) rfl)) (by decide) (by decide)) (g := (mkF m 4 #[.val (.ref a1)] [(.ref b13), (.ref b13)])) rfl (by rw [hml]; rfl) (Steps.refl _) (a := b13) (argsL := []) (rest := [(.ref b13)]) (lenOf pd__28_29V rfl) rfl (by show 2 * 0 + _ ≤ _; exact Nat.le_of_eq rfl) (hb hby d7_4) (fun _ _ => ⟨rfl, e13, (by decide : 1 + 1 ≤ _), (by decide : 4 + 16 ≤ _)⟩)
  dsimp only [Pt.U, Pt.locs, Pt.cells, Pt.slots] at X20 l20 y20 z20 st20 hQ20
  rw [l20, y20, z20] at X20
  obtain ⟨vb_20, kv_20, rfl, Nq20, Kp20, G20_0, G20_1, G20_2, G20_3, G20_4, H20_0⟩ := hQ20
  have N20 := Fr.app N0 Nq20
  refine own_goT st20 ?_
  have le_20 : h13.size ≤ T20.heap.size := Kp20.1
  have sz21 : h0.size ≤ b13 := by omega
  have K20 : Keep h0 T20.heap [] := Keep.trans K13 Kp20 (allS (Or.inr sz21) all0)
  have CH22 := CHr.trans CH14 (CHr.keep Kp20 (allS sf19 all0) CH14.1)
  have lt_vb_20 : vb_20 < T20.heap.size := (G20_4).lt
  have Sfv := Safe.keep Kp20 (allS sf15 all0) CH14.1 (Safe.new (show h13.size ≤ (vb_20 : Nat) by omega))
  have fA : own_fit [] (0 : Int32) := rfl
  refine own_go (fun _ => XS.aloadN X20.here hx rfl (hb hby d7_7) rfl rfl) ?_
  have ne23 : a1 ≠ b13 := own_ne (by omega)
  have F24 : Fld Z T20.heap a1 "com/example/ipomoea/ipomoea/store/JobKey" "collection" "Ljava/lang/String;" (.ref c1) := (Fld.keep (Fld.ext E13 P2) Kp20 (ninS ne23 nin0))
  obtain ⟨T25, X25, e25, st25⟩ := getF X20 hx hZ hown (host := "") (Or.inl (hw _ (List.mem_of_getElem? (i := 39) rfl))) Via.refl rfl F24 (g := (mkF m 8 #[.val (.ref a1)] [(.ref a1), (.ref b13)])) rfl rfl (hb hby d7_8)
  refine own_go st25 ?_
  show ∃ t o, Steps p.tables e below (T25.setTop (mkF m 11 #[.val (.ref a1)] [(.ref c1), (.ref b13)])) t ∧ _
  have F26 : Exa Z T20.heap c1 "java/lang/String" := (Exa.keep (Exa.ext E13 P4) Kp20)
  have ne27 : c1 ≠ b13 := own_ne (by omega)
  have F28 : Fld Z T20.heap c1 "java/lang/String" "value" "[B" (.ref tc) := (Fld.keep (Fld.ext E13 P5) Kp20 (ninS ne27 nin0))
  have F29 : Fld Z T20.heap c1 "java/lang/String" "coder" "B" (.int (0 : Int32)) := (Fld.keep (Fld.ext E13 P6) Kp20 (ninS ne27 nin0))
  have ne30 : tc ≠ b13 := own_ne (by omega)
  have F31 : Arv Z T20.heap tc kc .byte nc uc (.int (0 : Int32)) := (Arv.keep (P7.ext E13) Kp20 (ninS ne30 nin0))
  have F32 : Old Z n0 T20.heap := (Old.keep F16 Kp20 (allS ge17 all0))
  have ge33 : n0 ≤ vb_20 := by omega
  have ne34 : b13 ≠ vb_20 := own_ne (by omega)
  have zl35 : n0 ≤ T20.heap.size := by omega
  have sf36 := Safe.exa (EL := own_EL) hZ.alike G20_0 (by decide) (by decide)
  obtain ⟨cq37, kq37, q37a, q37b, q37c⟩ := isOf hZ e25 G20_0
  obtain ⟨_, _, ⟨T37, L37, k37, n37⟩, -, X37, ⟨Lc37, hQ37, l37, y37, z37⟩, st37⟩ := X25.virtualBack hx (y := (⟨"java/lang/StringBuilder", "append", "(Ljava/lang/String;)Ljava/lang/StringBuilder;"⟩ : MethodName)) (z := (⟨"java/lang/StringBuilder", "append", "(Ljava/lang/String;)Ljava/lang/StringBuilder;"⟩ : MethodName)) hown (mvT hZ (hw _ (List.mem_of_getElem? (i := 67) rfl))) (mvT hZ (hw _ (List.mem_of_getElem? (i := 68) rfl))) (notFace_of_selects (args := #[]) (mvT hZ (hw _ (List.mem_of_getElem? (i := 70) rfl)))) (mvT hZ (hw _ (List.mem_of_getElem? (i := 70) rfl))) (mvT hZ (hw _ (List.mem_of_getElem? (i := 69) rfl))) (by decide) (backOf (W := 0) (rmSBa l Z a0 hw [] c1 tc kc nc uc b13 vb_20 kv_20 ([]) (0 : Int32) zc T20.heap n0 zl35 F26 F28 F29 F31 G20_0 G20_1 G20_2 G20_3 G20_4 F32 P12 hzc (fc : own_fit uc nc) (fA : own_fit [] (0 : Int32)) (by simp only [List.length_append, List.length_nil, List.length_cons]; omega) ge33 ge17 ne34) hZ (hw _ (List.mem_of_getElem? (i := 71) rfl)) (hw _ (List.mem_of_getElem? (i := 51) rfl)) (by decide) (by decide)) q37a q37c (g := (mkF m 11 #[.val (.ref a1)] [(.ref c1), (.ref b13)])) rfl (by rw [hml]; rfl) (Steps.refl _) (argsL := [(.ref c1)]) (rest := []) (lenOf pd_h63c63b4d rfl) rfl (by show 2 * 0 + _ ≤ _; exact Nat.le_of_eq rfl) (hb hby d7_11) (fun _ _ => ⟨rfl, e25, (by decide : 2 + 0 ≤ _), (by decide : 20 + 0 ≤ _)⟩)
  dsimp only [Pt.U, Pt.locs, Pt.cells, Pt.slots] at X37 l37 y37 z37 st37 hQ37
  rw [l37, y37, z37] at X37
  obtain ⟨rfl, Nq37, Kp37, G37_0, G37_1, G37_2, G37_3, G37_4⟩ := hQ37
  have N37 := Fr.app N20 Nq37
  refine own_goT st37 ?_
  have le_37 : T20.heap.size ≤ T37.heap.size := Kp37.1
  have sz38 : h0.size ≤ vb_20 := by omega
  have K37 : Keep h0 T37.heap [] := Keep.trans K20 Kp37 (allS (Or.inr sz21) (allS (Or.inr sz38) all0))
  have Sf39 := Safe.keep Kp37 (allS sf36 (allS Sfv all0)) CH22.1 Sfv
  have CH40 := CHr.trans CH22 (CHr.keep Kp37 (allS sf36 (allS Sfv all0)) CH22.1)
  have fB : own_fit ([] ++ uc) ((0 : Int32) + nc) := own_fit.add fA fc (by simp only [List.length_nil]; omega)
  have fK : own_fit [(.int (47 : Int32))] (1 : Int32) := rfl
  obtain ⟨a41, T41, h41, kS41, b41, kb41, X41, e41, E41, hS, hk41, hZ, hown, A41, Fc41, Fv41, Av41, lta41, ltb41, cr41, -, hne41, st41⟩ := ldcCH X37 hx hZ hown (hw _ (List.mem_of_getElem? (i := 115) rfl)) wS rfl hS (Nat.zero_le _) hEL own_mem2 CH40.1 (vs := [(.int (47 : Int32))]) (z := 1) own_ct_2f (by decide) rfl (g := (mkF m 14 #[.val (.ref a1)] [(.ref b13)])) rfl (hb hby d7_14) (n := 4) (by decide) (by decide) (by decide) (by decide)
  refine own_go st41 ?_
  have K41 : Keep h0 h41 [] := Keep.ext K37 E41
  have le_41 : T37.heap.size ≤ h41.size := E41.1
  have Sf42 := CHr.safe cr41 (show (vb_20 : Nat) < T37.heap.size by omega) Sf39
  have CH43 := CHr.trans CH40 cr41
  have lt_a41 := own_ltn lta41
  have lt_b41 := own_ltn ltb41
  show ∃ t o, Steps p.tables e below (T41.setTop (mkF m 16 #[.val (.ref a1)] [(.ref a41), (.ref b13)])) t ∧ _
  have F44 : Exa Z h41 b13 "java/lang/StringBuilder" := (Exa.ext E41 G37_0)
  have F45 : Fld Z h41 b13 "java/lang/AbstractStringBuilder" "value" "[B" (.ref vb_20) := (Fld.ext E41 G37_1)
  have F46 : Fld Z h41 b13 "java/lang/AbstractStringBuilder" "coder" "B" (.int (0 : Int32)) := (Fld.ext E41 G37_2)
  have F47 : Fld Z h41 b13 "java/lang/AbstractStringBuilder" "count" "I" (.int ((0 : Int32) + nc)) := (Fld.ext E41 G37_3)
  have F48 : Arv Z h41 vb_20 kv_20 .byte (16 : Int32) ([] ++ uc) (.int (0 : Int32)) := (G37_4.ext E41)
  have F49 : Old Z n0 h41 := ((Old.keep F32 Kp37 (allS ge17 (allS ge33 all0))).ext E41)
  have zl50 : n0 ≤ h41.size := by omega
  have sf51 := Safe.exa (EL := own_EL) hZ.alike F44 (by decide) (by decide)
  obtain ⟨cq52, kq52, q52a, q52b, q52c⟩ := isOf hZ e41 F44
  obtain ⟨_, _, ⟨T52, L52, k52, n52⟩, -, X52, ⟨Lc52, hQ52, l52, y52, z52⟩, st52⟩ := X41.virtualBack hx (y := (⟨"java/lang/StringBuilder", "append", "(Ljava/lang/String;)Ljava/lang/StringBuilder;"⟩ : MethodName)) (z := (⟨"java/lang/StringBuilder", "append", "(Ljava/lang/String;)Ljava/lang/StringBuilder;"⟩ : MethodName)) hown (mvT hZ (hw _ (List.mem_of_getElem? (i := 67) rfl))) (mvT hZ (hw _ (List.mem_of_getElem? (i := 68) rfl))) (notFace_of_selects (args := #[]) (mvT hZ (hw _ (List.mem_of_getElem? (i := 70) rfl)))) (mvT hZ (hw _ (List.mem_of_getElem? (i := 70) rfl))) (mvT hZ (hw _ (List.mem_of_getElem? (i := 69) rfl))) (by decide) (backOf (W := 0) (rmSBa l Z a0 hw [] a41 b41 kb41 (1 : Int32) ([(.int (47 : Int32))]) b13 vb_20 kv_20 ([] ++ uc) (((0 : Int32) + nc)) zc h41 n0 zl50 A41 Fv41 Fc41 Av41 F44 F45 F46 F47 F48 F49 P12 hzc (fK : own_fit [(.int (47 : Int32))] (1 : Int32)) (fB : own_fit ([] ++ uc) ((0 : Int32) + nc)) (by simp only [List.length_append, List.length_nil, List.length_cons]; omega) ge33 ge17 ne34) hZ (hw _ (List.mem_of_getElem? (i := 71) rfl)) (hw _ (List.mem_of_getElem? (i := 51) rfl)) (by decide) (by decide)) q52a q52c (g := (mkF m 16 #[.val (.ref a1)] [(.ref a41), (.ref b13)])) rfl (by rw [hml]; rfl) (Steps.refl _) (argsL := [(.ref a41)]) (rest := []) (lenOf pd_h63c63b4d rfl) rfl (by show 2 * 0 + _ ≤ _; exact Nat.le_of_eq rfl) (hb hby d7_16) (fun _ _ => ⟨rfl, e41, (by decide : 4 + 0 ≤ _), (by decide : 28 + 0 ≤ _)⟩)
  dsimp only [Pt.U, Pt.locs, Pt.cells, Pt.slots] at X52 l52 y52 z52 st52 hQ52
  rw [l52, y52, z52] at X52
  obtain ⟨rfl, Nq52, Kp52, G52_0, G52_1, G52_2, G52_3, G52_4⟩ := hQ52
  have N52 := Fr.app N37 Nq52
  refine own_goT st52 ?_
  have le_52 : h41.size ≤ T52.heap.size := Kp52.1
  have K52 : Keep h0 T52.heap [] := Keep.trans K41 Kp52 (allS (Or.inr sz21) (allS (Or.inr sz38) all0))
  have Sf53 := Safe.keep Kp52 (allS sf51 (allS Sf42 all0)) CH43.1 Sf42
  have CH54 := CHr.trans CH43 (CHr.keep Kp52 (allS sf51 (allS Sf42 all0)) CH43.1)
  have fC := own_fit.add fB fK (by simp only [List.length_append, List.length_nil, List.length_cons]; omega)
  refine own_go (fun _ => XS.aloadN X52.here hx rfl (hb hby d7_19) rfl rfl) ?_
  have ne55 : a1 ≠ vb_20 := own_ne (by omega)
  have F56 : Fld Z T52.heap a1 "com/example/ipomoea/ipomoea/store/JobKey" "name" "Ljava/lang/String;" (.ref d1) := (Fld.keep (Fld.ext E41 (Fld.keep (Fld.keep (Fld.ext E13 P3) Kp20 (ninS ne23 nin0)) Kp37 (ninS ne23 (ninS ne55 nin0)))) Kp52 (ninS ne23 (ninS ne55 nin0)))
  obtain ⟨T57, X57, e57, st57⟩ := getF X52 hx hZ hown (host := "") (Or.inl (hw _ (List.mem_of_getElem? (i := 42) rfl))) Via.refl rfl F56 (g := (mkF m 20 #[.val (.ref a1)] [(.ref a1), (.ref b13)])) rfl rfl (hb hby d7_20)
  refine own_go st57 ?_
  show ∃ t o, Steps p.tables e below (T57.setTop (mkF m 23 #[.val (.ref a1)] [(.ref d1), (.ref b13)])) t ∧ _
  have F58 : Exa Z T52.heap d1 "java/lang/String" := (Exa.keep (Exa.ext E41 (Exa.keep (Exa.keep (Exa.ext E13 P8) Kp20) Kp37)) Kp52)
  have ne59 : d1 ≠ b13 := own_ne (by omega)
  have ne60 : d1 ≠ vb_20 := own_ne (by omega)
  have F61 : Fld Z T52.heap d1 "java/lang/String" "value" "[B" (.ref td) := (Fld.keep (Fld.ext E41 (Fld.keep (Fld.keep (Fld.ext E13 P9) Kp20 (ninS ne59 nin0)) Kp37 (ninS ne59 (ninS ne60 nin0)))) Kp52 (ninS ne59 (ninS ne60 nin0)))
  have F62 : Fld Z T52.heap d1 "java/lang/String" "coder" "B" (.int (0 : Int32)) := (Fld.keep (Fld.ext E41 (Fld.keep (Fld.keep (Fld.ext E13 P10) Kp20 (ninS ne59 nin0)) Kp37 (ninS ne59 (ninS ne60 nin0)))) Kp52 (ninS ne59 (ninS ne60 nin0)))
  have ne63 : td ≠ b13 := own_ne (by omega)
  have ne64 : td ≠ vb_20 := own_ne (by omega)
  have F65 : Arv Z T52.heap td kd .byte nd ud (.int (0 : Int32)) := (Arv.keep ((Arv.keep (Arv.keep (P11.ext E13) Kp20 (ninS ne63 nin0)) Kp37 (ninS ne63 (ninS ne64 nin0))).ext E41) Kp52 (ninS ne63 (ninS ne64 nin0)))
  have F66 : Old Z n0 T52.heap := (Old.keep F49 Kp52 (allS ge17 (allS ge33 all0)))
  have zl67 : n0 ≤ T52.heap.size := by omega
  have sf68 := Safe.exa (EL := own_EL) hZ.alike G52_0 (by decide) (by decide)
  obtain ⟨cq69, kq69, q69a, q69b, q69c⟩ := isOf hZ e57 G52_0
  obtain ⟨_, _, ⟨T69, L69, k69, n69⟩, -, X69, ⟨Lc69, hQ69, l69, y69, z69⟩, st69⟩ := X57.virtualBack hx (y := (⟨"java/lang/StringBuilder", "append", "(Ljava/lang/String;)Ljava/lang/StringBuilder;"⟩ : MethodName)) (z := (⟨"java/lang/StringBuilder", "append", "(Ljava/lang/String;)Ljava/lang/StringBuilder;"⟩ : MethodName)) hown (mvT hZ (hw _ (List.mem_of_getElem? (i := 67) rfl))) (mvT hZ (hw _ (List.mem_of_getElem? (i := 68) rfl))) (notFace_of_selects (args := #[]) (mvT hZ (hw _ (List.mem_of_getElem? (i := 70) rfl)))) (mvT hZ (hw _ (List.mem_of_getElem? (i := 70) rfl))) (mvT hZ (hw _ (List.mem_of_getElem? (i := 69) rfl))) (by decide) (backOf (W := 0) (rmSBa l Z a0 hw [] d1 td kd nd ud b13 vb_20 kv_20 ((([] ++ uc) ++ [(.int (47 : Int32))])) ((((0 : Int32) + nc) + (1 : Int32))) zc T52.heap n0 zl67 F58 F61 F62 F65 G52_0 G52_1 G52_2 G52_3 G52_4 F66 P12 hzc (fd : own_fit ud nd) (fC : own_fit (([] ++ uc) ++ [(.int (47 : Int32))]) (((0 : Int32) + nc) + (1 : Int32))) (by simp only [List.length_append, List.length_nil, List.length_cons]; omega) ge33 ge17 ne34) hZ (hw _ (List.mem_of_getElem? (i := 71) rfl)) (hw _ (List.mem_of_getElem? (i := 51) rfl)) (by decide) (by decide)) q69a q69c (g := (mkF m 23 #[.val (.ref a1)] [(.ref d1), (.ref b13)])) rfl (by rw [hml]; rfl) (Steps.refl _) (argsL := [(.ref d1)]) (rest := []) (lenOf pd_h63c63b4d rfl) rfl (by show 2 * 0 + _ ≤ _; exact Nat.le_of_eq rfl) (hb hby d7_23) (fun _ _ => ⟨rfl, e57, (by decide : 4 + 0 ≤ _), (by decide : 28 + 0 ≤ _)⟩)
  dsimp only [Pt.U, Pt.locs, Pt.cells, Pt.slots] at X69 l69 y69 z69 st69 hQ69
  rw [l69, y69, z69] at X69
  obtain ⟨rfl, Nq69, Kp69, G69_0, G69_1, G69_2, G69_3, G69_4⟩ := hQ69
  have N69 := Fr.app N52 Nq69
  refine own_goT st69 ?_
  have le_69 : T52.heap.size ≤ T69.heap.size := Kp69.1
  have K69 : Keep h0 T69.heap [] := Keep.trans K52 Kp69 (allS (Or.inr sz21) (allS (Or.inr sz38) all0))
  have Sf70 := Safe.keep Kp69 (allS sf68 (allS Sf53 all0)) CH54.1 Sf53
  have CH71 := CHr.trans CH54 (CHr.keep Kp69 (allS sf68 (allS Sf53 all0)) CH54.1)
  have fD := own_fit.add fC fd (by simp only [List.length_append, List.length_nil, List.length_cons]; omega)
  show ∃ t o, Steps p.tables e below (T69.setTop (mkF m 26 #[.val (.ref a1)] [(.ref b13)])) t ∧ _
  have F72 : Old Z n0 T69.heap := (Old.keep F66 Kp69 (allS ge17 (allS ge33 all0)))
  have zl73 : n0 ≤ T69.heap.size := by omega
  obtain ⟨cq74, kq74, q74a, q74b, q74c⟩ := isOf hZ rfl G69_0
  obtain ⟨_, _, ⟨T74, L74, k74, n74⟩, -, X74, ⟨Lc74, hQ74, l74, y74, z74⟩, st74⟩ := X69.virtualBack hx (y := (⟨"java/lang/StringBuilder", "toString", "()Ljava/lang/String;"⟩ : MethodName)) (z := (⟨"java/lang/StringBuilder", "toString", "()Ljava/lang/String;"⟩ : MethodName)) hown (mvT hZ (hw _ (List.mem_of_getElem? (i := 116) rfl))) (mvT hZ (hw _ (List.mem_of_getElem? (i := 117) rfl))) (notFace_of_selects (args := #[]) (mvT hZ (hw _ (List.mem_of_getElem? (i := 119) rfl)))) (mvT hZ (hw _ (List.mem_of_getElem? (i := 119) rfl))) (mvT hZ (hw _ (List.mem_of_getElem? (i := 118) rfl))) (by decide) (backOf (W := 0) (rmTs l Z a0 hw [] b13 vb_20 kv_20 (((([] ++ uc) ++ [(.int (47 : Int32))]) ++ ud)) (((((0 : Int32) + nc) + (1 : Int32)) + nd)) zc T69.heap n0 zl73 G69_0 G69_1 G69_2 G69_3 G69_4 F72 P12 hzc (fD : own_fit ((([] ++ uc) ++ [(.int (47 : Int32))]) ++ ud) ((((0 : Int32) + nc) + (1 : Int32)) + nd)) (by simp only [List.length_append, List.length_nil, List.length_cons]; omega)) hZ (hw _ (List.mem_of_getElem? (i := 120) rfl)) (hw _ (List.mem_of_getElem? (i := 51) rfl)) (by decide) (by decide)) q74a q74c (g := (mkF m 26 #[.val (.ref a1)] [(.ref b13)])) rfl (by rw [hml]; rfl) (Steps.refl _) (argsL := []) (rest := []) (lenOf pd__28_29Ljava_2flang_2fString_3b rfl) rfl (by show 2 * 0 + _ ≤ _; exact Nat.le_of_eq rfl) (hb hby d7_26) (fun _ _ => ⟨rfl, rfl, (by decide : 4 + 2 ≤ _), (by decide : 28 + 19 ≤ _)⟩)
  dsimp only [Pt.U, Pt.locs, Pt.cells, Pt.slots] at X74 l74 y74 z74 st74 hQ74
  rw [l74, y74, z74] at X74
  obtain ⟨b_74, tb_74, kb_74, rfl, Nq74, Kp74, G74_0, G74_1, G74_2, G74_3, H74_0⟩ := hQ74
  have N74 := Fr.app N69 Nq74
  refine own_goT st74 ?_
  have le_74 : T69.heap.size ≤ T74.heap.size := Kp74.1
  have K74 : Keep h0 T74.heap [] := Keep.trans K69 Kp74 all0
  have Sf75 := Safe.keep Kp74 all0 CH71.1 Sf70
  have CH76 := CHr.trans CH71 (CHr.keep Kp74 all0 CH71.1)
  have lt_b_74 : b_74 < T74.heap.size := (G74_0).lt
  have lt_tb_74 : tb_74 < T74.heap.size := (G74_3).lt
  show ∃ t o, Steps p.tables e below (T74.setTop (mkF m 29 #[.val (.ref a1)] [(.ref b_74)])) t ∧ _
  obtain ⟨fs, hr, hrun, hended, hW⟩ := Jvm.Stand.leaveW X74 hS (by omega) (v := some (.ref b_74)) (fun h => by rw [Bd.returns] at h; cases h)
  have CHz : CHr Z own_EL s.vm s.heap T74.vm T74.heap := by rw [hh]; exact CHr.trans CH76 (CHv.at X74 hZ hEL CH76.1)
  refine ⟨_, _, ?_, hrun, hended, _, _, rfl, ?_, CHz, ⟨hW.1, hW.2.1, hW.2.2.1, hW.2.2.2.mono (by decide) (by decide)⟩⟩
  · jvm_step X74.here [X74.here.top, hx, (hb hby d7_29), X74.method', Bd.returns, Value.isRef, FieldType.isReference]
    first | (intro acts; rw [hr _ acts rfl rfl rfl]) | rw [hr _ _ rfl rfl rfl]
    exact Steps.refl _
  · show Q_rmJTs Z _ _ _ _ _ _ _ _ _ _ _ _ h0 n0 _ T74.heap _
    exact ⟨b_74, tb_74, kb_74, rfl, N74, K74, G74_0, G74_1, G74_2, G74_3, (by omega)⟩
theorem ef_rmPick (m : MethodId) (x0 : Int32) (x1 : Int32) (x2 : Int32) (x3 : Int32) : entryFrame m #[(.int x0), (.int x1), (.int x2), (.int x3)] 4 = mkF m 0 #[.val (.int x0), .val (.int x1), .val (.int x2), .val (.int x3)] [] := by first | (simp [entryFrame, mkF, argsToLocals, Value.category]; done) | rfl
theorem d39_0 : decode method_4_code 0 = .ok (.iload_n 0, 1) := by decide +kernel
theorem d39_1 : decode method_4_code 1 = .ok (.ifCond .ne 5, 3) := by decide +kernel
theorem d39_4 : decode method_4_code 4 = .ok (.iload_n 1, 1) := by decide +kernel
theorem d39_5 : decode method_4_code 5 = .ok (.ireturn, 1) := by decide +kernel
theorem d39_6 : decode method_4_code 6 = .ok (.iload_n 0, 1) := by decide +kernel
theorem d39_7 : decode method_4_code 7 = .ok (.iconst 1, 1) := by decide +kernel
theorem d39_8 : decode method_4_code 8 = .ok (.if_icmp .ne 5, 3) := by decide +kernel
theorem d39_11 : decode method_4_code 11 = .ok (.iload_n 2, 1) := by decide +kernel
theorem d39_12 : decode method_4_code 12 = .ok (.ireturn, 1) := by decide +kernel
theorem d39_13 : decode method_4_code 13 = .ok (.iload_n 3, 1) := by decide +kernel
theorem d39_14 : decode method_4_code 14 = .ok (.ireturn, 1) := by decide +kernel
def Q_rmPick (Z : State) (xj : Int32) (m0 : Int32) (m1 : Int32) (m2 : Int32) (h0 : Heap) (n0 : Nat) (v : Option Value) (h : Heap) (L : List Loc) : Prop := v = some (.int (own_pick xj m0 m1 m2)) ∧ Fr n0 L ∧ h = h0
set_option maxRecDepth 65536 in
set_option maxHeartbeats 40000000 in
theorem rmPick (l : Launch) (Z : State) (a0 : Array Value) (hw : ∀ d ∈ tables_1, d.before a0 Z = true) (ws : List Jvm.Cond) (xj : Int32) (m0 : Int32) (m1 : Int32) (m2 : Int32) (h0 : Heap) (n0 : Nat) (Z0 : n0 ≤ h0.size) (OLD : Old Z n0 h0) (rg0 : own_rg m0) (rg1 : own_rg m1) (rg2 : own_rg m2) :
    MetFree l (⟨"com/example/ipomoea/ipomoea/store/JobKeyToStringPinLaw", "pick", "(ICCC)C"⟩ : MethodName) (head1 (Jvm.Cond.code (⟨"com/example/ipomoea/ipomoea/store/JobKeyToStringPinLaw", "pick", "(ICCC)C"⟩ : MethodName) method_4_code 4 (some .char) :: ws) ({ frames := 0, cells := 0, slots := 0, locals := 0 } : Room)) (fun a U => a = #[(.int xj), (.int m0), (.int m1), (.int m2)] ∧ Z.Warmed39 U.vm ∧ U.heap = h0) (fun _ _ _ _ _ => True) (fun _ U o U' => ∃ v L, o = .returned v ∧ Q_rmPick Z xj m0 m1 m2 h0 n0 v U'.heap L ∧ FrameEnd U o U' L ({ frames := 0, cells := 0, slots := 0, locals := 0 } : Room).cells ({ frames := 0, cells := 0, slots := 0, locals := 0 } : Room).slots) := by
  refine MetFree.of_bodySF (plainFor_of_name pn_com_example_ipomoea_ipomoea_store_JobKeyToStringPinLaw) hisR ?_
  intro p e s m args below meth c s₁ Bd hml0 hP hK
  obtain ⟨rfl, hZ, hh⟩ := hP
  have hx := Bd.exec
  have hby := Bd.bytes
  have hml : c.maxLocals = 4 := hml0
  have hown : s.vm.findClass "com/example/ipomoea/ipomoea/store/JobKeyToStringPinLaw" = some m.cls := findClass_of_methodNamed Bd.named
  have hnm := (name_of_methodNamed Bd.named Bd.method).1
  have X0 : Stand p l e ({ frames := 0, cells := 0, slots := 0, locals := 0 } : Room) s m #[(.int xj), (.int m0), (.int m1), (.int m2)] below meth c s₁ [] 0 0 := Stand.of_body Bd
  have e0 : s₁.heap = h0 := by rw [← hh, Bd.state]; rfl
  have N0 := Fr.nil n0
  have pre0 : ∀ t, Steps p.tables e below (s₁.setTop (mkF m 0 #[.val (.int xj), .val (.int m0), .val (.int m1), .val (.int m2)] [])) t → Steps p.tables e below (s₁.setTop (entryFrame m #[(.int xj), (.int m0), (.int m1), (.int m2)] 4)) t := fun t k => castTop (ef_rmPick m xj m0 m1 m2) k
  have oz := OLD.1
  refine own_go (B := s₁.setTop (mkF m 0 #[.val (.int xj), .val (.int m0), .val (.int m1), .val (.int m2)] [])) pre0 ?_
  show ∃ t o, Steps p.tables e below (s₁.setTop (mkF m 0 #[.val (.int xj), .val (.int m0), .val (.int m1), .val (.int m2)] [])) t ∧ _
  refine own_go (fun _ => XS.iloadN X0.here hx rfl (hb hby d39_0) rfl) ?_
  show ∃ t o, Steps p.tables e below (s₁.setTop (mkF m 1 #[.val (.int xj), .val (.int m0), .val (.int m1), .val (.int m2)] [(.int xj)])) t ∧ _
  by_cases hc1 : xj = (0 : Int32)
  · refine own_go (fun _ => XS.ifNo X0.here hx rfl (hb hby d39_1) rfl ((if0 _ _).trans (teq hc1).2)) ?_
    refine own_go (fun _ => XS.iloadN X0.here hx rfl (hb hby d39_4) rfl) ?_
    show ∃ t o, Steps p.tables e below (s₁.setTop (mkF m 5 #[.val (.int xj), .val (.int m0), .val (.int m1), .val (.int m2)] [(.int m0)])) t ∧ _
    obtain ⟨fs, hr, hrun, hended, hW, hsame⟩ := X0.leave (v := some (.int (nar .char m0))) (fun h => by rw [Bd.returns] at h; cases h)
    refine ⟨_, _, ?_, hrun, hended, _, _, rfl, ?_, ⟨_, rfl⟩, hW, hsame.mono (by decide) (by decide)⟩
    · exact retN X0 hx (t := .char) Bd.returns (by simp) (hb hby d39_5) hr
    · show Q_rmPick Z _ _ _ _ h0 n0 _ s₁.heap _
      rw [e0]
      exact ⟨(by rw [own_narc rg0]; unfold own_pick; rw [if_pos hc1]), N0, rfl⟩
  · refine own_go (fun _ => XS.ifYes X0.here hx rfl (pc0 := 1) (pc' := 6) rfl (hb hby d39_1) rfl ((if0 _ _).trans (feq hc1).2) (by decide) (by decide)) ?_
    refine own_go (fun _ => XS.iloadN X0.here hx rfl (hb hby d39_6) rfl) ?_
    refine own_go (fun _ => XS.iconst X0.here hx rfl (hb hby d39_7)) ?_
    show ∃ t o, Steps p.tables e below (s₁.setTop (mkF m 8 #[.val (.int xj), .val (.int m0), .val (.int m1), .val (.int m2)] [(.int (1 : Int32)), (.int xj)])) t ∧ _
    by_cases hc2 : xj = (1 : Int32)
    · refine own_go (fun _ => XS.icmpNo X0.here hx rfl (hb hby d39_8) rfl (teq hc2).2) ?_
      refine own_go (fun _ => XS.iloadN X0.here hx rfl (hb hby d39_11) rfl) ?_
      show ∃ t o, Steps p.tables e below (s₁.setTop (mkF m 12 #[.val (.int xj), .val (.int m0), .val (.int m1), .val (.int m2)] [(.int m1)])) t ∧ _
      obtain ⟨fs, hr, hrun, hended, hW, hsame⟩ := X0.leave (v := some (.int (nar .char m1))) (fun h => by rw [Bd.returns] at h; cases h)
      refine ⟨_, _, ?_, hrun, hended, _, _, rfl, ?_, ⟨_, rfl⟩, hW, hsame.mono (by decide) (by decide)⟩
      · exact retN X0 hx (t := .char) Bd.returns (by simp) (hb hby d39_12) hr
      · show Q_rmPick Z _ _ _ _ h0 n0 _ s₁.heap _
        rw [e0]
        exact ⟨(by rw [own_narc rg1]; unfold own_pick; rw [if_neg hc1, if_pos hc2]), N0, rfl⟩
    · refine own_go (fun _ => XS.icmpYes X0.here hx rfl (pc0 := 8) (pc' := 13) rfl (hb hby d39_8) rfl (feq hc2).2 (by decide) (by decide)) ?_
      refine own_go (fun _ => XS.iloadN X0.here hx rfl (hb hby d39_13) rfl) ?_
      show ∃ t o, Steps p.tables e below (s₁.setTop (mkF m 14 #[.val (.int xj), .val (.int m0), .val (.int m1), .val (.int m2)] [(.int m2)])) t ∧ _
      obtain ⟨fs, hr, hrun, hended, hW, hsame⟩ := X0.leave (v := some (.int (nar .char m2))) (fun h => by rw [Bd.returns] at h; cases h)
      refine ⟨_, _, ?_, hrun, hended, _, _, rfl, ?_, ⟨_, rfl⟩, hW, hsame.mono (by decide) (by decide)⟩
      · exact retN X0 hx (t := .char) Bd.returns (by simp) (hb hby d39_14) hr
      · show Q_rmPick Z _ _ _ _ h0 n0 _ s₁.heap _
        rw [e0]
        exact ⟨(by rw [own_narc rg2]; unfold own_pick; rw [if_neg hc1, if_neg hc2]), N0, rfl⟩
theorem ef_rmAt (m : MethodId) (x0 : Nat) (x1 : Int32) (x2 : Int32) (x3 : Int32) (x4 : Int32) (x5 : Int32) (x6 : Int32) (x7 : Int32) (x8 : Int32) (x9 : Int32) : entryFrame m #[(.ref x0), (.int x1), (.int x2), (.int x3), (.int x4), (.int x5), (.int x6), (.int x7), (.int x8), (.int x9)] 11 = mkF m 0 #[.val (.ref x0), .val (.int x1), .val (.int x2), .val (.int x3), .val (.int x4), .val (.int x5), .val (.int x6), .val (.int x7), .val (.int x8), .val (.int x9), .unset] [] := by first | (simp [entryFrame, mkF, argsToLocals, Value.category]; done) | rfl
theorem d29_0 : decode method_5_code 0 = .ok (.iload_n 1, 1) := by decide +kernel
theorem d29_1 : decode method_5_code 1 = .ok (.iload_n 3, 1) := by decide +kernel
theorem d29_2 : decode method_5_code 2 = .ok (.if_icmp .lt 5, 3) := by decide +kernel
theorem d29_7 : decode method_5_code 7 = .ok (.iload_n 1, 1) := by decide +kernel
theorem d29_8 : decode method_5_code 8 = .ok (.iload_n 2, 1) := by decide +kernel
theorem d29_9 : decode method_5_code 9 = .ok (.if_icmp .ge 18, 3) := by decide +kernel
theorem d29_12 : decode method_5_code 12 = .ok (.iload_n 1, 1) := by decide +kernel
theorem d29_13 : decode method_5_code 13 = .ok (.iload 4, 2) := by decide +kernel
theorem d29_15 : decode method_5_code 15 = .ok (.iload 5, 2) := by decide +kernel
theorem d29_17 : decode method_5_code 17 = .ok (.iload 6, 2) := by decide +kernel
theorem d29_19 : decode method_5_code 19 = .ok (.invokestatic 39, 3) := by decide +kernel
theorem pd__28ICCC_29C : parseMethodDescriptor "(ICCC)C" = some ⟨[.int, .char, .char, .char], some .char⟩ := by decide +kernel
theorem d29_22 : decode method_5_code 22 = .ok (.istore 10, 2) := by decide +kernel
theorem d29_24 : decode method_5_code 24 = .ok (.goto 31, 3) := by decide +kernel
theorem d29_55 : decode method_5_code 55 = .ok (.aload_n 0, 1) := by decide +kernel
theorem d29_56 : decode method_5_code 56 = .ok (.iload_n 1, 1) := by decide +kernel
theorem d29_57 : decode method_5_code 57 = .ok (.invokevirtual 43, 3) := by decide +kernel
theorem pd__28I_29C : parseMethodDescriptor "(I)C" = some ⟨[.int], some .char⟩ := by decide +kernel
theorem d29_60 : decode method_5_code 60 = .ok (.iload 10, 2) := by decide +kernel
theorem d29_62 : decode method_5_code 62 = .ok (.if_icmp .ne 7, 3) := by decide +kernel
theorem d29_65 : decode method_5_code 65 = .ok (.iconst 1, 1) := by decide +kernel
theorem d29_66 : decode method_5_code 66 = .ok (.goto 4, 3) := by decide +kernel
theorem d29_70 : decode method_5_code 70 = .ok (.ireturn, 1) := by decide +kernel
theorem d29_27 : decode method_5_code 27 = .ok (.iload_n 1, 1) := by decide +kernel
theorem d29_28 : decode method_5_code 28 = .ok (.iload_n 2, 1) := by decide +kernel
theorem d29_29 : decode method_5_code 29 = .ok (.if_icmp .ne 10, 3) := by decide +kernel
theorem d29_32 : decode method_5_code 32 = .ok (.bipush 47, 2) := by decide +kernel
theorem d29_34 : decode method_5_code 34 = .ok (.istore 10, 2) := by decide +kernel
theorem d29_36 : decode method_5_code 36 = .ok (.goto 19, 3) := by decide +kernel
theorem d29_39 : decode method_5_code 39 = .ok (.iload_n 1, 1) := by decide +kernel
theorem d29_40 : decode method_5_code 40 = .ok (.iload_n 2, 1) := by decide +kernel
theorem d29_41 : decode method_5_code 41 = .ok (.isub, 1) := by decide +kernel
theorem d29_42 : decode method_5_code 42 = .ok (.iconst 1, 1) := by decide +kernel
theorem d29_43 : decode method_5_code 43 = .ok (.isub, 1) := by decide +kernel
theorem d29_44 : decode method_5_code 44 = .ok (.iload 7, 2) := by decide +kernel
theorem d29_46 : decode method_5_code 46 = .ok (.iload 8, 2) := by decide +kernel
theorem d29_48 : decode method_5_code 48 = .ok (.iload 9, 2) := by decide +kernel
theorem d29_50 : decode method_5_code 50 = .ok (.invokestatic 39, 3) := by decide +kernel
theorem d29_53 : decode method_5_code 53 = .ok (.istore 10, 2) := by decide +kernel
theorem d29_5 : decode method_5_code 5 = .ok (.iconst 1, 1) := by decide +kernel
theorem d29_6 : decode method_5_code 6 = .ok (.ireturn, 1) := by decide +kernel
def Q_rmAt (Z : State) (so : Nat) (tb : Nat) (kb : ClassId) (nn : Int32) (vs : List Value) (xi : Int32) (lc : Int32) (tt : Int32) (y0 : Int32) (y1 : Int32) (y2 : Int32) (z0 : Int32) (z1 : Int32) (z2 : Int32) (zc : Int32) (gv : Value) (h0 : Heap) (n0 : Nat) (v : Option Value) (h : Heap) (L : List Loc) : Prop := v = some (.int (1 : Int32)) ∧ Fr n0 L ∧ h = h0
set_option maxRecDepth 65536 in
set_option maxHeartbeats 40000000 in
theorem rmAt (l : Launch) (Z : State) (a0 : Array Value) (hw : ∀ d ∈ tables_1, d.before a0 Z = true) (ws : List Jvm.Cond) (so : Nat) (tb : Nat) (kb : ClassId) (nn : Int32) (vs : List Value) (xi : Int32) (lc : Int32) (tt : Int32) (y0 : Int32) (y1 : Int32) (y2 : Int32) (z0 : Int32) (z1 : Int32) (z2 : Int32) (zc : Int32) (gv : Value) (h0 : Heap) (n0 : Nat) (Z0 : n0 ≤ h0.size) (P1 : Exa Z h0 so "java/lang/String") (P2 : Fld Z h0 so "java/lang/String" "value" "[B" (.ref tb)) (P3 : Fld Z h0 so "java/lang/String" "coder" "B" (.int (0 : Int32))) (P4 : Arv Z h0 tb kb .byte nn vs (.int (0 : Int32))) (OLD : Old Z n0 h0) (P5 : Sta Z Z.heap "java/lang/String" "COMPACT_STRINGS" "Z" (.int zc)) (P6 : Sta Z Z.heap "jdk/internal/util/Preconditions" "SIOOBE_FORMATTER" "Ljava/util/function/BiFunction;" gv) (hzc : ¬ (zc = (0 : Int32))) (hgv : gv.isRef = true) (r0 : own_rg y0) (r1 : own_rg y1) (r2 : own_rg y2) (r3 : own_rg z0) (r4 : own_rg z1) (r5 : own_rg z2) (hat : xi < tt → ¬ (xi < (0 : Int32)) ∧ xi < nn ∧ vs.getD xi.toNatClampNeg (.int (0 : Int32)) = (.int ((own_exp xi lc y0 y1 y2 z0 z1 z2).toInt8.toInt32)) ∧ own_rg (own_exp xi lc y0 y1 y2 z0 z1 z2)) :
    MetFree l (⟨"com/example/ipomoea/ipomoea/store/JobKeyToStringPinLaw", "at", "(Ljava/lang/String;IIICCCCCC)Z"⟩ : MethodName) (head1 (Jvm.Cond.code (⟨"com/example/ipomoea/ipomoea/store/JobKeyToStringPinLaw", "at", "(Ljava/lang/String;IIICCCCCC)Z"⟩ : MethodName) method_5_code 11 (some .boolean) :: ws) ({ frames := 4, cells := 0, slots := 0, locals := 53 } : Room)) (fun a U => a = #[(.ref so), (.int xi), (.int lc), (.int tt), (.int y0), (.int y1), (.int y2), (.int z0), (.int z1), (.int z2)] ∧ Z.Warmed39 U.vm ∧ U.heap = h0) (fun _ _ _ _ _ => True) (fun _ U o U' => ∃ v L, o = .returned v ∧ Q_rmAt Z so tb kb nn vs xi lc tt y0 y1 y2 z0 z1 z2 zc gv h0 n0 v U'.heap L ∧ FrameEnd U o U' L ({ frames := 4, cells := 0, slots := 0, locals := 53 } : Room).cells ({ frames := 4, cells := 0, slots := 0, locals := 53 } : Room).slots) := by
  refine MetFree.of_bodySF (plainFor_of_name pn_com_example_ipomoea_ipomoea_store_JobKeyToStringPinLaw) hisR ?_
  intro p e s m args below meth c s₁ Bd hml0 hP hK
  obtain ⟨rfl, hZ, hh⟩ := hP
  have hx := Bd.exec
  have hby := Bd.bytes
  have hml : c.maxLocals = 11 := hml0
  have hown : s.vm.findClass "com/example/ipomoea/ipomoea/store/JobKeyToStringPinLaw" = some m.cls := findClass_of_methodNamed Bd.named
  have hnm := (name_of_methodNamed Bd.named Bd.method).1
  have X0 : Stand p l e ({ frames := 4, cells := 0, slots := 0, locals := 53 } : Room) s m #[(.ref so), (.int xi), (.int lc), (.int tt), (.int y0), (.int y1), (.int y2), (.int z0), (.int z1), (.int z2)] below meth c s₁ [] 0 0 := Stand.of_body Bd
  have e0 : s₁.heap = h0 := by rw [← hh, Bd.state]; rfl
  have N0 := Fr.nil n0
  have pre0 : ∀ t, Steps p.tables e below (s₁.setTop (mkF m 0 #[.val (.ref so), .val (.int xi), .val (.int lc), .val (.int tt), .val (.int y0), .val (.int y1), .val (.int y2), .val (.int z0), .val (.int z1), .val (.int z2), .unset] [])) t → Steps p.tables e below (s₁.setTop (entryFrame m #[(.ref so), (.int xi), (.int lc), (.int tt), (.int y0), (.int y1), (.int y2), (.int z0), (.int z1), (.int z2)] 11)) t := fun t k => castTop (ef_rmAt m so xi lc tt y0 y1 y2 z0 z1 z2) k
  have oz := OLD.1
  have lt_so : so < h0.size := P1.lt
  have lt_tb : tb < h0.size := P4.lt
  refine own_go (B := s₁.setTop (mkF m 0 #[.val (.ref so), .val (.int xi), .val (.int lc), .val (.int tt), .val (.int y0), .val (.int y1), .val (.int y2), .val (.int z0), .val (.int z1), .val (.int z2), .unset] [])) pre0 ?_
  show ∃ t o, Steps p.tables e below (s₁.setTop (mkF m 0 #[.val (.ref so), .val (.int xi), .val (.int lc), .val (.int tt), .val (.int y0), .val (.int y1), .val (.int y2), .val (.int z0), .val (.int z1), .val (.int z2), .unset] [])) t ∧ _
  refine own_go (fun _ => XS.iloadN X0.here hx rfl (hb hby d29_0) rfl) ?_
  refine own_go (fun _ => XS.iloadN X0.here hx rfl (hb hby d29_1) rfl) ?_
  show ∃ t o, Steps p.tables e below (s₁.setTop (mkF m 2 #[.val (.ref so), .val (.int xi), .val (.int lc), .val (.int tt), .val (.int y0), .val (.int y1), .val (.int y2), .val (.int z0), .val (.int z1), .val (.int z2), .unset] [(.int tt), (.int xi)])) t ∧ _
  by_cases hc7 : xi < tt
  · refine own_go (fun _ => XS.icmpYes X0.here hx rfl (pc0 := 2) (pc' := 7) rfl (hb hby d29_2) rfl (tlt hc7).1 (by decide) (by decide)) ?_
    refine own_go (fun _ => XS.iloadN X0.here hx rfl (hb hby d29_7) rfl) ?_
    refine own_go (fun _ => XS.iloadN X0.here hx rfl (hb hby d29_8) rfl) ?_
    show ∃ t o, Steps p.tables e below (s₁.setTop (mkF m 9 #[.val (.ref so), .val (.int xi), .val (.int lc), .val (.int tt), .val (.int y0), .val (.int y1), .val (.int y2), .val (.int z0), .val (.int z1), .val (.int z2), .unset] [(.int lc), (.int xi)])) t ∧ _
    by_cases hc8 : xi < lc
    · refine own_go (fun _ => XS.icmpNo X0.here hx rfl (hb hby d29_9) rfl (tlt hc8).2.1) ?_
      refine own_go (fun _ => XS.iloadN X0.here hx rfl (hb hby d29_12) rfl) ?_
      refine own_go (fun _ => XS.iload X0.here hx rfl (hb hby d29_13) rfl) ?_
      show ∃ t o, Steps p.tables e below (s₁.setTop (mkF m 15 #[.val (.ref so), .val (.int xi), .val (.int lc), .val (.int tt), .val (.int y0), .val (.int y1), .val (.int y2), .val (.int z0), .val (.int z1), .val (.int z2), .unset] [(.int y0), (.int xi)])) t ∧ _
      refine own_go (fun _ => XS.iload X0.here hx rfl (hb hby d29_15) rfl) ?_
      refine own_go (fun _ => XS.iload X0.here hx rfl (hb hby d29_17) rfl) ?_
      show ∃ t o, Steps p.tables e below (s₁.setTop (mkF m 19 #[.val (.ref so), .val (.int xi), .val (.int lc), .val (.int tt), .val (.int y0), .val (.int y1), .val (.int y2), .val (.int z0), .val (.int z1), .val (.int z2), .unset] [(.int y2), (.int y1), (.int y0), (.int xi)])) t ∧ _
      obtain ⟨_, _, ⟨T9, L9, k9, n9⟩, -, X9, ⟨Lc9, hQ9, l9, y9, z9⟩, st9⟩ := Jvm.LawKit.callS X0 hx (y := (⟨"com/example/ipomoea/ipomoea/store/JobKeyToStringPinLaw", "pick", "(ICCC)C"⟩ : MethodName)) hown (mvT hZ (hw _ (List.mem_of_getElem? (i := 200) rfl))) (mvT hZ (hw _ (List.mem_of_getElem? (i := 201) rfl))) (mvT hZ (hw _ (List.mem_of_getElem? (i := 2) rfl))) (mvT hZ (hw _ (List.mem_of_getElem? (i := 202) rfl))) (by decide) (backOf (W := 0) (rmPick l Z a0 hw [] xi y0 y1 y2 h0 n0 Z0 OLD (r0 : own_rg y0) (r1 : own_rg y1) (r2 : own_rg y2)) hZ (hw _ (List.mem_of_getElem? (i := 202) rfl)) (hw _ (List.mem_of_getElem? (i := 2) rfl)) (by decide) (by decide)) (g := (mkF m 19 #[.val (.ref so), .val (.int xi), .val (.int lc), .val (.int tt), .val (.int y0), .val (.int y1), .val (.int y2), .val (.int z0), .val (.int z1), .val (.int z2), .unset] [(.int y2), (.int y1), (.int y0), (.int xi)])) rfl (by rw [hml]; rfl) (argsL := [(.int xi), (.int y0), (.int y1), (.int y2)]) (rest := []) (lenOf pd__28ICCC_29C rfl) rfl (by show 2 * 0 + _ ≤ _; exact Nat.le_of_eq rfl) (hb hby d29_19) (fun _ _ => ⟨rfl, e0, (by decide : 0 + 0 ≤ _), (by decide : 0 + 0 ≤ _)⟩)
      dsimp only [Pt.U, Pt.locs, Pt.cells, Pt.slots] at X9 l9 y9 z9 st9 hQ9
      rw [l9, y9, z9] at X9
      obtain ⟨rfl, Nq9, e9⟩ := hQ9
      have N9 := Fr.app N0 Nq9
      refine own_go st9 ?_
      refine own_go (fun _ => XS.istore X9.here hx rfl (hb hby d29_22) rfl (l' := #[.val (.ref so), .val (.int xi), .val (.int lc), .val (.int tt), .val (.int y0), .val (.int y1), .val (.int y2), .val (.int z0), .val (.int z1), .val (.int z2), .val (.int (own_pick xi y0 y1 y2))]) rfl) ?_
      refine own_go (fun _ => XS.goto X9.here hx rfl (pc0 := 24) (pc' := 55) rfl (hb hby d29_24) (by decide) (by decide)) ?_
      have hE : (own_exp xi lc y0 y1 y2 z0 z1 z2) = (own_pick xi y0 y1 y2) := by unfold own_exp; rw [if_pos hc8]
      obtain ⟨qa, qb, qc, qd⟩ := hat hc7
      rw [hE] at qc qd
      show ∃ t o, Steps p.tables e below (T9.setTop (mkF m 55 #[.val (.ref so), .val (.int xi), .val (.int lc), .val (.int tt), .val (.int y0), .val (.int y1), .val (.int y2), .val (.int z0), .val (.int z1), .val (.int z2), .val (.int (own_pick xi y0 y1 y2))] [])) t ∧ _
      refine own_go (fun _ => XS.aloadN X9.here hx rfl (hb hby d29_55) rfl rfl) ?_
      refine own_go (fun _ => XS.iloadN X9.here hx rfl (hb hby d29_56) rfl) ?_
      show ∃ t o, Steps p.tables e below (T9.setTop (mkF m 57 #[.val (.ref so), .val (.int xi), .val (.int lc), .val (.int tt), .val (.int y0), .val (.int y1), .val (.int y2), .val (.int z0), .val (.int z1), .val (.int z2), .val (.int (own_pick xi y0 y1 y2))] [(.int xi), (.ref so)])) t ∧ _
      obtain ⟨cq10, kq10, q10a, q10b, q10c⟩ := isOf hZ e9 P1
      obtain ⟨_, _, ⟨T10, L10, k10, n10⟩, -, X10, ⟨Lc10, hQ10, l10, y10, z10⟩, st10⟩ := X9.virtualBack hx (y := (⟨"java/lang/String", "charAt", "(I)C"⟩ : MethodName)) (z := (⟨"java/lang/String", "charAt", "(I)C"⟩ : MethodName)) hown (mvT hZ (hw _ (List.mem_of_getElem? (i := 165) rfl))) (mvT hZ (hw _ (List.mem_of_getElem? (i := 166) rfl))) (notFace_of_selects (args := #[]) (mvT hZ (hw _ (List.mem_of_getElem? (i := 168) rfl)))) (mvT hZ (hw _ (List.mem_of_getElem? (i := 168) rfl))) (mvT hZ (hw _ (List.mem_of_getElem? (i := 167) rfl))) (by decide) (backOf (W := 0) (rmChG l Z a0 hw [] so tb kb nn vs xi (own_pick xi y0 y1 y2) zc gv h0 n0 Z0 P1 P2 P3 P4 OLD P5 P6 hzc hgv (qa : ¬ (xi < (0 : Int32))) (qb : xi < nn) (qc : vs.getD xi.toNatClampNeg (.int (0 : Int32)) = (.int ((own_pick xi y0 y1 y2).toInt8.toInt32))) (qd : own_rg (own_pick xi y0 y1 y2))) hZ (hw _ (List.mem_of_getElem? (i := 169) rfl)) (hw _ (List.mem_of_getElem? (i := 6) rfl)) (by decide) (by decide)) q10a q10c (g := (mkF m 57 #[.val (.ref so), .val (.int xi), .val (.int lc), .val (.int tt), .val (.int y0), .val (.int y1), .val (.int y2), .val (.int z0), .val (.int z1), .val (.int z2), .val (.int (own_pick xi y0 y1 y2))] [(.int xi), (.ref so)])) rfl (by rw [hml]; rfl) (Steps.refl _) (argsL := [(.int xi)]) (rest := []) (lenOf pd__28I_29C rfl) rfl (by show 2 * 0 + _ ≤ _; exact Nat.le_of_eq rfl) (hb hby d29_57) (fun _ _ => ⟨rfl, e9, (by decide : 0 + 0 ≤ _), (by decide : 0 + 0 ≤ _)⟩)
      dsimp only [Pt.U, Pt.locs, Pt.cells, Pt.slots] at X10 l10 y10 z10 st10 hQ10
      rw [l10, y10, z10] at X10
      obtain ⟨rfl, Nq10, e10⟩ := hQ10
      have N10 := Fr.app N9 Nq10
      refine own_goT st10 ?_
      refine own_go (fun _ => XS.iload X10.here hx rfl (hb hby d29_60) rfl) ?_
      show ∃ t o, Steps p.tables e below (T10.setTop (mkF m 62 #[.val (.ref so), .val (.int xi), .val (.int lc), .val (.int tt), .val (.int y0), .val (.int y1), .val (.int y2), .val (.int z0), .val (.int z1), .val (.int z2), .val (.int (own_pick xi y0 y1 y2))] [(.int (own_pick xi y0 y1 y2)), (.int (own_pick xi y0 y1 y2))])) t ∧ _
      have hd11 : (own_pick xi y0 y1 y2) = (own_pick xi y0 y1 y2) := rfl
      refine own_go (fun _ => XS.icmpNo X10.here hx rfl (hb hby d29_62) rfl (teq hd11).2) ?_
      refine own_go (fun _ => XS.iconst X10.here hx rfl (hb hby d29_65)) ?_
      refine own_go (fun _ => XS.goto X10.here hx rfl (pc0 := 66) (pc' := 70) rfl (hb hby d29_66) (by decide) (by decide)) ?_
      show ∃ t o, Steps p.tables e below (T10.setTop (mkF m 70 #[.val (.ref so), .val (.int xi), .val (.int lc), .val (.int tt), .val (.int y0), .val (.int y1), .val (.int y2), .val (.int z0), .val (.int z1), .val (.int z2), .val (.int (own_pick xi y0 y1 y2))] [(.int (1 : Int32))])) t ∧ _
      obtain ⟨fs, hr, hrun, hended, hW, hsame⟩ := X10.leave (v := some (.int (1 : Int32))) (fun h => by rw [Bd.returns] at h; cases h)
      refine ⟨_, _, ?_, hrun, hended, _, _, rfl, ?_, ⟨_, rfl⟩, hW, hsame.mono (by decide) (by decide)⟩
      · exact retN X10 hx (t := .boolean) Bd.returns (by simp) (hb hby d29_70) hr
      · show Q_rmAt Z _ _ _ _ _ _ _ _ _ _ _ _ _ _ _ _ h0 n0 _ T10.heap _
        rw [e10]
        exact ⟨rfl, N10, rfl⟩
    · refine own_go (fun _ => XS.icmpYes X0.here hx rfl (pc0 := 9) (pc' := 27) rfl (hb hby d29_9) rfl (flt hc8).2.1 (by decide) (by decide)) ?_
      refine own_go (fun _ => XS.iloadN X0.here hx rfl (hb hby d29_27) rfl) ?_
      refine own_go (fun _ => XS.iloadN X0.here hx rfl (hb hby d29_28) rfl) ?_
      show ∃ t o, Steps p.tables e below (s₁.setTop (mkF m 29 #[.val (.ref so), .val (.int xi), .val (.int lc), .val (.int tt), .val (.int y0), .val (.int y1), .val (.int y2), .val (.int z0), .val (.int z1), .val (.int z2), .unset] [(.int lc), (.int xi)])) t ∧ _
      by_cases hc12 : xi = lc
      · refine own_go (fun _ => XS.icmpNo X0.here hx rfl (hb hby d29_29) rfl (teq hc12).2) ?_
        refine own_go (fun _ => XS.bipush X0.here hx rfl (hb hby d29_32)) ?_
        refine own_go (fun _ => XS.istore X0.here hx rfl (hb hby d29_34) rfl (l' := #[.val (.ref so), .val (.int xi), .val (.int lc), .val (.int tt), .val (.int y0), .val (.int y1), .val (.int y2), .val (.int z0), .val (.int z1), .val (.int z2), .val (.int (47 : Int32))]) rfl) ?_
        show ∃ t o, Steps p.tables e below (s₁.setTop (mkF m 36 #[.val (.ref so), .val (.int xi), .val (.int lc), .val (.int tt), .val (.int y0), .val (.int y1), .val (.int y2), .val (.int z0), .val (.int z1), .val (.int z2), .val (.int (47 : Int32))] [])) t ∧ _
        refine own_go (fun _ => XS.goto X0.here hx rfl (pc0 := 36) (pc' := 55) rfl (hb hby d29_36) (by decide) (by decide)) ?_
        have hE : (own_exp xi lc y0 y1 y2 z0 z1 z2) = (47 : Int32) := by unfold own_exp; rw [if_neg hc8, if_pos hc12]
        obtain ⟨qa, qb, qc, qd⟩ := hat hc7
        rw [hE] at qc qd
        refine own_go (fun _ => XS.aloadN X0.here hx rfl (hb hby d29_55) rfl rfl) ?_
        refine own_go (fun _ => XS.iloadN X0.here hx rfl (hb hby d29_56) rfl) ?_
        show ∃ t o, Steps p.tables e below (s₁.setTop (mkF m 57 #[.val (.ref so), .val (.int xi), .val (.int lc), .val (.int tt), .val (.int y0), .val (.int y1), .val (.int y2), .val (.int z0), .val (.int z1), .val (.int z2), .val (.int (47 : Int32))] [(.int xi), (.ref so)])) t ∧ _
        obtain ⟨cq13, kq13, q13a, q13b, q13c⟩ := isOf hZ e0 P1
        obtain ⟨_, _, ⟨T13, L13, k13, n13⟩, -, X13, ⟨Lc13, hQ13, l13, y13, z13⟩, st13⟩ := X0.virtualBack hx (y := (⟨"java/lang/String", "charAt", "(I)C"⟩ : MethodName)) (z := (⟨"java/lang/String", "charAt", "(I)C"⟩ : MethodName)) hown (mvT hZ (hw _ (List.mem_of_getElem? (i := 165) rfl))) (mvT hZ (hw _ (List.mem_of_getElem? (i := 166) rfl))) (notFace_of_selects (args := #[]) (mvT hZ (hw _ (List.mem_of_getElem? (i := 168) rfl)))) (mvT hZ (hw _ (List.mem_of_getElem? (i := 168) rfl))) (mvT hZ (hw _ (List.mem_of_getElem? (i := 167) rfl))) (by decide) (backOf (W := 0) (rmChG l Z a0 hw [] so tb kb nn vs xi (47 : Int32) zc gv h0 n0 Z0 P1 P2 P3 P4 OLD P5 P6 hzc hgv (qa : ¬ (xi < (0 : Int32))) (qb : xi < nn) (qc : vs.getD xi.toNatClampNeg (.int (0 : Int32)) = (.int ((47 : Int32).toInt8.toInt32))) (qd : own_rg (47 : Int32))) hZ (hw _ (List.mem_of_getElem? (i := 169) rfl)) (hw _ (List.mem_of_getElem? (i := 6) rfl)) (by decide) (by decide)) q13a q13c (g := (mkF m 57 #[.val (.ref so), .val (.int xi), .val (.int lc), .val (.int tt), .val (.int y0), .val (.int y1), .val (.int y2), .val (.int z0), .val (.int z1), .val (.int z2), .val (.int (47 : Int32))] [(.int xi), (.ref so)])) rfl (by rw [hml]; rfl) (Steps.refl _) (argsL := [(.int xi)]) (rest := []) (lenOf pd__28I_29C rfl) rfl (by show 2 * 0 + _ ≤ _; exact Nat.le_of_eq rfl) (hb hby d29_57) (fun _ _ => ⟨rfl, e0, (by decide : 0 + 0 ≤ _), (by decide : 0 + 0 ≤ _)⟩)
        dsimp only [Pt.U, Pt.locs, Pt.cells, Pt.slots] at X13 l13 y13 z13 st13 hQ13
        rw [l13, y13, z13] at X13
        obtain ⟨rfl, Nq13, e13⟩ := hQ13
        have N13 := Fr.app N0 Nq13
        refine own_goT st13 ?_
        refine own_go (fun _ => XS.iload X13.here hx rfl (hb hby d29_60) rfl) ?_
        show ∃ t o, Steps p.tables e below (T13.setTop (mkF m 62 #[.val (.ref so), .val (.int xi), .val (.int lc), .val (.int tt), .val (.int y0), .val (.int y1), .val (.int y2), .val (.int z0), .val (.int z1), .val (.int z2), .val (.int (47 : Int32))] [(.int (47 : Int32)), (.int (47 : Int32))])) t ∧ _
        have hd14 : (47 : Int32) = (47 : Int32) := rfl
        refine own_go (fun _ => XS.icmpNo X13.here hx rfl (hb hby d29_62) rfl (teq hd14).2) ?_
        refine own_go (fun _ => XS.iconst X13.here hx rfl (hb hby d29_65)) ?_
        refine own_go (fun _ => XS.goto X13.here hx rfl (pc0 := 66) (pc' := 70) rfl (hb hby d29_66) (by decide) (by decide)) ?_
        show ∃ t o, Steps p.tables e below (T13.setTop (mkF m 70 #[.val (.ref so), .val (.int xi), .val (.int lc), .val (.int tt), .val (.int y0), .val (.int y1), .val (.int y2), .val (.int z0), .val (.int z1), .val (.int z2), .val (.int (47 : Int32))] [(.int (1 : Int32))])) t ∧ _
        obtain ⟨fs, hr, hrun, hended, hW, hsame⟩ := X13.leave (v := some (.int (1 : Int32))) (fun h => by rw [Bd.returns] at h; cases h)
        refine ⟨_, _, ?_, hrun, hended, _, _, rfl, ?_, ⟨_, rfl⟩, hW, hsame.mono (by decide) (by decide)⟩
        · exact retN X13 hx (t := .boolean) Bd.returns (by simp) (hb hby d29_70) hr
        · show Q_rmAt Z _ _ _ _ _ _ _ _ _ _ _ _ _ _ _ _ h0 n0 _ T13.heap _
          rw [e13]
          exact ⟨rfl, N13, rfl⟩
      · refine own_go (fun _ => XS.icmpYes X0.here hx rfl (pc0 := 29) (pc' := 39) rfl (hb hby d29_29) rfl (feq hc12).2 (by decide) (by decide)) ?_
        refine own_go (fun _ => XS.iloadN X0.here hx rfl (hb hby d29_39) rfl) ?_
        refine own_go (fun _ => XS.iloadN X0.here hx rfl (hb hby d29_40) rfl) ?_
        show ∃ t o, Steps p.tables e below (s₁.setTop (mkF m 41 #[.val (.ref so), .val (.int xi), .val (.int lc), .val (.int tt), .val (.int y0), .val (.int y1), .val (.int y2), .val (.int z0), .val (.int z1), .val (.int z2), .unset] [(.int lc), (.int xi)])) t ∧ _
        refine own_go (fun _ => XS.isub X0.here hx rfl (hb hby d29_41) rfl) ?_
        refine own_go (fun _ => XS.iconst X0.here hx rfl (hb hby d29_42)) ?_
        refine own_go (fun _ => XS.isub X0.here hx rfl (hb hby d29_43) rfl) ?_
        show ∃ t o, Steps p.tables e below (s₁.setTop (mkF m 44 #[.val (.ref so), .val (.int xi), .val (.int lc), .val (.int tt), .val (.int y0), .val (.int y1), .val (.int y2), .val (.int z0), .val (.int z1), .val (.int z2), .unset] [(.int ((xi - lc) - (1 : Int32)))])) t ∧ _
        refine own_go (fun _ => XS.iload X0.here hx rfl (hb hby d29_44) rfl) ?_
        refine own_go (fun _ => XS.iload X0.here hx rfl (hb hby d29_46) rfl) ?_
        refine own_go (fun _ => XS.iload X0.here hx rfl (hb hby d29_48) rfl) ?_
        show ∃ t o, Steps p.tables e below (s₁.setTop (mkF m 50 #[.val (.ref so), .val (.int xi), .val (.int lc), .val (.int tt), .val (.int y0), .val (.int y1), .val (.int y2), .val (.int z0), .val (.int z1), .val (.int z2), .unset] [(.int z2), (.int z1), (.int z0), (.int ((xi - lc) - (1 : Int32)))])) t ∧ _
        obtain ⟨_, _, ⟨T15, L15, k15, n15⟩, -, X15, ⟨Lc15, hQ15, l15, y15, z15⟩, st15⟩ := Jvm.LawKit.callS X0 hx (y := (⟨"com/example/ipomoea/ipomoea/store/JobKeyToStringPinLaw", "pick", "(ICCC)C"⟩ : MethodName)) hown (mvT hZ (hw _ (List.mem_of_getElem? (i := 200) rfl))) (mvT hZ (hw _ (List.mem_of_getElem? (i := 201) rfl))) (mvT hZ (hw _ (List.mem_of_getElem? (i := 2) rfl))) (mvT hZ (hw _ (List.mem_of_getElem? (i := 202) rfl))) (by decide) (backOf (W := 0) (rmPick l Z a0 hw [] (((xi - lc) - (1 : Int32))) z0 z1 z2 h0 n0 Z0 OLD (r3 : own_rg z0) (r4 : own_rg z1) (r5 : own_rg z2)) hZ (hw _ (List.mem_of_getElem? (i := 202) rfl)) (hw _ (List.mem_of_getElem? (i := 2) rfl)) (by decide) (by decide)) (g := (mkF m 50 #[.val (.ref so), .val (.int xi), .val (.int lc), .val (.int tt), .val (.int y0), .val (.int y1), .val (.int y2), .val (.int z0), .val (.int z1), .val (.int z2), .unset] [(.int z2), (.int z1), (.int z0), (.int ((xi - lc) - (1 : Int32)))])) rfl (by rw [hml]; rfl) (argsL := [(.int ((xi - lc) - (1 : Int32))), (.int z0), (.int z1), (.int z2)]) (rest := []) (lenOf pd__28ICCC_29C rfl) rfl (by show 2 * 0 + _ ≤ _; exact Nat.le_of_eq rfl) (hb hby d29_50) (fun _ _ => ⟨rfl, e0, (by decide : 0 + 0 ≤ _), (by decide : 0 + 0 ≤ _)⟩)
        dsimp only [Pt.U, Pt.locs, Pt.cells, Pt.slots] at X15 l15 y15 z15 st15 hQ15
        rw [l15, y15, z15] at X15
        obtain ⟨rfl, Nq15, e15⟩ := hQ15
        have N15 := Fr.app N0 Nq15
        refine own_go st15 ?_
        refine own_go (fun _ => XS.istore X15.here hx rfl (hb hby d29_53) rfl (l' := #[.val (.ref so), .val (.int xi), .val (.int lc), .val (.int tt), .val (.int y0), .val (.int y1), .val (.int y2), .val (.int z0), .val (.int z1), .val (.int z2), .val (.int (own_pick ((xi - lc) - (1 : Int32)) z0 z1 z2))]) rfl) ?_
        have hE : (own_exp xi lc y0 y1 y2 z0 z1 z2) = (own_pick ((xi - lc) - (1 : Int32)) z0 z1 z2) := by unfold own_exp; rw [if_neg hc8, if_neg hc12]
        obtain ⟨qa, qb, qc, qd⟩ := hat hc7
        rw [hE] at qc qd
        refine own_go (fun _ => XS.aloadN X15.here hx rfl (hb hby d29_55) rfl rfl) ?_
        show ∃ t o, Steps p.tables e below (T15.setTop (mkF m 56 #[.val (.ref so), .val (.int xi), .val (.int lc), .val (.int tt), .val (.int y0), .val (.int y1), .val (.int y2), .val (.int z0), .val (.int z1), .val (.int z2), .val (.int (own_pick ((xi - lc) - (1 : Int32)) z0 z1 z2))] [(.ref so)])) t ∧ _
        refine own_go (fun _ => XS.iloadN X15.here hx rfl (hb hby d29_56) rfl) ?_
        show ∃ t o, Steps p.tables e below (T15.setTop (mkF m 57 #[.val (.ref so), .val (.int xi), .val (.int lc), .val (.int tt), .val (.int y0), .val (.int y1), .val (.int y2), .val (.int z0), .val (.int z1), .val (.int z2), .val (.int (own_pick ((xi - lc) - (1 : Int32)) z0 z1 z2))] [(.int xi), (.ref so)])) t ∧ _
        obtain ⟨cq16, kq16, q16a, q16b, q16c⟩ := isOf hZ e15 P1
        obtain ⟨_, _, ⟨T16, L16, k16, n16⟩, -, X16, ⟨Lc16, hQ16, l16, y16, z16⟩, st16⟩ := X15.virtualBack hx (y := (⟨"java/lang/String", "charAt", "(I)C"⟩ : MethodName)) (z := (⟨"java/lang/String", "charAt", "(I)C"⟩ : MethodName)) hown (mvT hZ (hw _ (List.mem_of_getElem? (i := 165) rfl))) (mvT hZ (hw _ (List.mem_of_getElem? (i := 166) rfl))) (notFace_of_selects (args := #[]) (mvT hZ (hw _ (List.mem_of_getElem? (i := 168) rfl)))) (mvT hZ (hw _ (List.mem_of_getElem? (i := 168) rfl))) (mvT hZ (hw _ (List.mem_of_getElem? (i := 167) rfl))) (by decide) (backOf (W := 0) (rmChG l Z a0 hw [] so tb kb nn vs xi ((own_pick ((xi - lc) - (1 : Int32)) z0 z1 z2)) zc gv h0 n0 Z0 P1 P2 P3 P4 OLD P5 P6 hzc hgv (qa : ¬ (xi < (0 : Int32))) (qb : xi < nn) (qc : vs.getD xi.toNatClampNeg (.int (0 : Int32)) = (.int ((own_pick ((xi - lc) - (1 : Int32)) z0 z1 z2).toInt8.toInt32))) (qd : own_rg (own_pick ((xi - lc) - (1 : Int32)) z0 z1 z2))) hZ (hw _ (List.mem_of_getElem? (i := 169) rfl)) (hw _ (List.mem_of_getElem? (i := 6) rfl)) (by decide) (by decide)) q16a q16c (g := (mkF m 57 #[.val (.ref so), .val (.int xi), .val (.int lc), .val (.int tt), .val (.int y0), .val (.int y1), .val (.int y2), .val (.int z0), .val (.int z1), .val (.int z2), .val (.int (own_pick ((xi - lc) - (1 : Int32)) z0 z1 z2))] [(.int xi), (.ref so)])) rfl (by rw [hml]; rfl) (Steps.refl _) (argsL := [(.int xi)]) (rest := []) (lenOf pd__28I_29C rfl) rfl (by show 2 * 0 + _ ≤ _; exact Nat.le_of_eq rfl) (hb hby d29_57) (fun _ _ => ⟨rfl, e15, (by decide : 0 + 0 ≤ _), (by decide : 0 + 0 ≤ _)⟩)
        dsimp only [Pt.U, Pt.locs, Pt.cells, Pt.slots] at X16 l16 y16 z16 st16 hQ16
        rw [l16, y16, z16] at X16
        obtain ⟨rfl, Nq16, e16⟩ := hQ16
        have N16 := Fr.app N15 Nq16
        refine own_goT st16 ?_
        refine own_go (fun _ => XS.iload X16.here hx rfl (hb hby d29_60) rfl) ?_
        show ∃ t o, Steps p.tables e below (T16.setTop (mkF m 62 #[.val (.ref so), .val (.int xi), .val (.int lc), .val (.int tt), .val (.int y0), .val (.int y1), .val (.int y2), .val (.int z0), .val (.int z1), .val (.int z2), .val (.int (own_pick ((xi - lc) - (1 : Int32)) z0 z1 z2))] [(.int (own_pick ((xi - lc) - (1 : Int32)) z0 z1 z2)), (.int (own_pick ((xi - lc) - (1 : Int32)) z0 z1 z2))])) t ∧ _
        have hd17 : (own_pick ((xi - lc) - (1 : Int32)) z0 z1 z2) = (own_pick ((xi - lc) - (1 : Int32)) z0 z1 z2) := rfl
        refine own_go (fun _ => XS.icmpNo X16.here hx rfl (hb hby d29_62) rfl (teq hd17).2) ?_
        refine own_go (fun _ => XS.iconst X16.here hx rfl (hb hby d29_65)) ?_
        refine own_go (fun _ => XS.goto X16.here hx rfl (pc0 := 66) (pc' := 70) rfl (hb hby d29_66) (by decide) (by decide)) ?_
        show ∃ t o, Steps p.tables e below (T16.setTop (mkF m 70 #[.val (.ref so), .val (.int xi), .val (.int lc), .val (.int tt), .val (.int y0), .val (.int y1), .val (.int y2), .val (.int z0), .val (.int z1), .val (.int z2), .val (.int (own_pick ((xi - lc) - (1 : Int32)) z0 z1 z2))] [(.int (1 : Int32))])) t ∧ _
        obtain ⟨fs, hr, hrun, hended, hW, hsame⟩ := X16.leave (v := some (.int (1 : Int32))) (fun h => by rw [Bd.returns] at h; cases h)
        refine ⟨_, _, ?_, hrun, hended, _, _, rfl, ?_, ⟨_, rfl⟩, hW, hsame.mono (by decide) (by decide)⟩
        · exact retN X16 hx (t := .boolean) Bd.returns (by simp) (hb hby d29_70) hr
        · show Q_rmAt Z _ _ _ _ _ _ _ _ _ _ _ _ _ _ _ _ h0 n0 _ T16.heap _
          rw [e16]
          exact ⟨rfl, N16, rfl⟩
  · refine own_go (fun _ => XS.icmpNo X0.here hx rfl (hb hby d29_2) rfl (flt hc7).1) ?_
    refine own_go (fun _ => XS.iconst X0.here hx rfl (hb hby d29_5)) ?_
    show ∃ t o, Steps p.tables e below (s₁.setTop (mkF m 6 #[.val (.ref so), .val (.int xi), .val (.int lc), .val (.int tt), .val (.int y0), .val (.int y1), .val (.int y2), .val (.int z0), .val (.int z1), .val (.int z2), .unset] [(.int (1 : Int32))])) t ∧ _
    obtain ⟨fs, hr, hrun, hended, hW, hsame⟩ := X0.leave (v := some (.int (1 : Int32))) (fun h => by rw [Bd.returns] at h; cases h)
    refine ⟨_, _, ?_, hrun, hended, _, _, rfl, ?_, ⟨_, rfl⟩, hW, hsame.mono (by decide) (by decide)⟩
    · exact retN X0 hx (t := .boolean) Bd.returns (by simp) (hb hby d29_6) hr
    · show Q_rmAt Z _ _ _ _ _ _ _ _ _ _ _ _ _ _ _ _ h0 n0 _ s₁.heap _
      rw [e0]
      exact ⟨rfl, N0, rfl⟩
theorem ef_rm0 (m : MethodId) (x0 : Int32) (x1 : Int32) (x2 : Int32) : entryFrame m #[(.int x0), (.int x1), (.int x2)] maxLocals = mkF m 0 #[.val (.int x0), .val (.int x1), .val (.int x2), .unset, .unset, .unset, .unset, .unset, .unset, .unset, .unset, .unset, .unset, .unset, .unset] [] := by first | (simp [entryFrame, mkF, argsToLocals, Value.category, maxLocals]; done) | rfl
theorem pd__28ICCC_29Ljava_2flang_2fString_3b : parseMethodDescriptor "(ICCC)Ljava/lang/String;" = some ⟨[.int, .char, .char, .char], some (.object "java/lang/String")⟩ := by decide +kernel
theorem pd__28Ljava_2flang_2fString_3bLjava_2flang_2fString_3b_29V : parseMethodDescriptor "(Ljava/lang/String;Ljava/lang/String;)V" = some ⟨[(.object "java/lang/String"), (.object "java/lang/String")], none⟩ := by decide +kernel
theorem pd__28Ljava_2flang_2fString_3bIIICCCCCC_29Z : parseMethodDescriptor "(Ljava/lang/String;IIICCCCCC)Z" = some ⟨[(.object "java/lang/String"), .int, .int, .int, .char, .char, .char, .char, .char, .char], some .boolean⟩ := by decide +kernel
def Q_rm0 (Z : State) (x1 : Int32) (x2 : Int32) (x3 : Int32) (zc : Int32) (gv : Value) (h0 : Heap) (n0 : Nat) (v : Option Value) (h : Heap) (L : List Loc) : Prop := v = some (.int (1 : Int32)) ∧ Fr n0 L ∧ Keep h0 h []
set_option maxRecDepth 65536 in
set_option maxHeartbeats 40000000 in
theorem rm0 (l : Launch) (Z : State) (a0 : Array Value) (hw : ∀ d ∈ tables_1, d.before a0 Z = true) (ws : List Jvm.Cond) (x1 : Int32) (x2 : Int32) (x3 : Int32) (zc : Int32) (gv : Value) (h0 : Heap) (n0 : Nat) (Z0 : n0 ≤ h0.size) (OLD : Old Z n0 h0) (P1 : Sta Z Z.heap "java/lang/String" "COMPACT_STRINGS" "Z" (.int zc)) (P2 : Sta Z Z.heap "jdk/internal/util/Preconditions" "SIOOBE_FORMATTER" "Ljava/util/function/BiFunction;" gv) (hzc : ¬ (zc = (0 : Int32))) (hgv : gv.isRef = true) (hEL : EW Z a0 own_EL) :
    MetFree l x (head1 (Jvm.Cond.code x code maxLocals ret :: ws) room_1) (fun a U => a = #[(.int x1), (.int x2), (.int x3)] ∧ Z.Warmed39 U.vm ∧ U.heap = h0 ∧ CHv Z own_EL U.vm h0) (fun _ _ _ _ _ => True) (fun _ U o U' => ∃ v L, o = .returned v ∧ Q_rm0 Z x1 x2 x3 zc gv h0 n0 v U'.heap L ∧ CHr Z own_EL U.vm U.heap U'.vm U'.heap ∧ ReturnedEndW U o U' L room_1.cells room_1.slots) := by
  refine MetFree.of_bodySF (plainFor_of_name pn_com_example_ipomoea_ipomoea_store_JobKeyToStringPinLaw) hisR ?_
  intro p e s m args below meth c s₁ Bd hml0 hP hK
  obtain ⟨rfl, hZ, hh, hCH⟩ := hP
  have hx := Bd.exec
  have hby := Bd.bytes
  have hml : c.maxLocals = 15 := hml0
  have hown : s.vm.findClass "com/example/ipomoea/ipomoea/store/JobKeyToStringPinLaw" = some m.cls := findClass_of_methodNamed Bd.named
  have hnm := (name_of_methodNamed Bd.named Bd.method).1
  have X0 : Stand p l e room_1 (s.setVm s.vm) m #[(.int x1), (.int x2), (.int x3)] below meth c s₁ [] 0 0 := Stand.of_body Bd
  have e0 : s₁.heap = h0 := by rw [← hh, Bd.state]; rfl
  have N0 := Fr.nil n0
  have pre0 : ∀ t, Steps p.tables e below (s₁.setTop (mkF m 0 #[.val (.int x1), .val (.int x2), .val (.int x3), .unset, .unset, .unset, .unset, .unset, .unset, .unset, .unset, .unset, .unset, .unset, .unset] [])) t → Steps p.tables e below (s₁.setTop (entryFrame m #[(.int x1), (.int x2), (.int x3)] maxLocals)) t := fun t k => castTop (ef_rm0 m x1 x2 x3) k
  have hZ : Z.Warmed39 (s.setVm s.vm).vm := hZ
  have hown : (s.setVm s.vm).vm.findClass "com/example/ipomoea/ipomoea/store/JobKeyToStringPinLaw" = some m.cls := hown
  have hS : s.Since s.vm 0 := (State.WarmedH.refl s).since 0
  have CH0 : CHr Z own_EL s.vm h0 s.vm h0 := CHr.refl hCH
  have oz := OLD.1
  refine own_go (B := s₁.setTop (mkF m 0 #[.val (.int x1), .val (.int x2), .val (.int x3), .unset, .unset, .unset, .unset, .unset, .unset, .unset, .unset, .unset, .unset, .unset, .unset] [])) pre0 ?_
  show ∃ t o, Steps p.tables e below (s₁.setTop (mkF m 0 #[.val (.int x1), .val (.int x2), .val (.int x3), .unset, .unset, .unset, .unset, .unset, .unset, .unset, .unset, .unset, .unset, .unset, .unset] [])) t ∧ _
  refine own_go (fun _ => XS.iloadN X0.here hx rfl (hb hby at_0) rfl) ?_
  refine own_go (fun _ => XS.iconst X0.here hx rfl (hb hby at_1)) ?_
  refine own_go (fun _ => XS.iand X0.here hx rfl (hb hby at_2) rfl) ?_
  show ∃ t o, Steps p.tables e below (s₁.setTop (mkF m 3 #[.val (.int x1), .val (.int x2), .val (.int x3), .unset, .unset, .unset, .unset, .unset, .unset, .unset, .unset, .unset, .unset, .unset, .unset] [(.int (x1 &&& (3 : Int32)))])) t ∧ _
  refine own_go (fun _ => XS.istoreN X0.here hx rfl (hb hby at_3) rfl (l' := #[.val (.int x1), .val (.int x2), .val (.int x3), .val (.int (x1 &&& (3 : Int32))), .unset, .unset, .unset, .unset, .unset, .unset, .unset, .unset, .unset, .unset, .unset]) rfl) ?_
  show ∃ t o, Steps p.tables e below (s₁.setTop (mkF m 4 #[.val (.int x1), .val (.int x2), .val (.int x3), .val (.int (x1 &&& (3 : Int32))), .unset, .unset, .unset, .unset, .unset, .unset, .unset, .unset, .unset, .unset, .unset] [])) t ∧ _
  obtain ⟨lc, e_lc⟩ : ∃ z : Int32, z = (x1 &&& (3 : Int32)) := ⟨_, rfl⟩
  rw [← e_lc]
  have r_lc : own_4 lc := by rw [e_lc]; exact own_and3 _
  show ∃ t o, Steps p.tables e below (s₁.setTop (mkF m 4 #[.val (.int x1), .val (.int x2), .val (.int x3), .val (.int lc), .unset, .unset, .unset, .unset, .unset, .unset, .unset, .unset, .unset, .unset, .unset] [])) t ∧ _
  refine own_go (fun _ => XS.iloadN X0.here hx rfl (hb hby at_4) rfl) ?_
  refine own_go (fun _ => XS.iconst X0.here hx rfl (hb hby at_5)) ?_
  refine own_go (fun _ => XS.iushr X0.here hx rfl (hb hby at_6) rfl) ?_
  show ∃ t o, Steps p.tables e below (s₁.setTop (mkF m 7 #[.val (.int x1), .val (.int x2), .val (.int x3), .val (.int lc), .unset, .unset, .unset, .unset, .unset, .unset, .unset, .unset, .unset, .unset, .unset] [(.int ((x1.toUInt32 >>> ((2 : Int32) &&& 31).toUInt32).toInt32))])) t ∧ _
  refine own_go (fun _ => XS.iconst X0.here hx rfl (hb hby at_7)) ?_
  refine own_go (fun _ => XS.iand X0.here hx rfl (hb hby at_8) rfl) ?_
  refine own_go (fun _ => XS.istore X0.here hx rfl (hb hby at_9) rfl (l' := #[.val (.int x1), .val (.int x2), .val (.int x3), .val (.int lc), .val (.int (((x1.toUInt32 >>> ((2 : Int32) &&& 31).toUInt32).toInt32) &&& (3 : Int32))), .unset, .unset, .unset, .unset, .unset, .unset, .unset, .unset, .unset, .unset]) rfl) ?_
  show ∃ t o, Steps p.tables e below (s₁.setTop (mkF m 11 #[.val (.int x1), .val (.int x2), .val (.int x3), .val (.int lc), .val (.int (((x1.toUInt32 >>> ((2 : Int32) &&& 31).toUInt32).toInt32) &&& (3 : Int32))), .unset, .unset, .unset, .unset, .unset, .unset, .unset, .unset, .unset, .unset] [])) t ∧ _
  obtain ⟨nl, e_nl⟩ : ∃ z : Int32, z = (((x1.toUInt32 >>> ((2 : Int32) &&& 31).toUInt32).toInt32) &&& (3 : Int32)) := ⟨_, rfl⟩
  rw [← e_nl]
  have r_nl : own_4 nl := by rw [e_nl]; exact own_and3 _
  show ∃ t o, Steps p.tables e below (s₁.setTop (mkF m 11 #[.val (.int x1), .val (.int x2), .val (.int x3), .val (.int lc), .val (.int nl), .unset, .unset, .unset, .unset, .unset, .unset, .unset, .unset, .unset, .unset] [])) t ∧ _
  refine own_go (fun _ => XS.iloadN X0.here hx rfl (hb hby at_11) rfl) ?_
  refine own_go (fun _ => XS.sipush X0.here hx rfl (hb hby at_12)) ?_
  refine own_go (fun _ => XS.iand X0.here hx rfl (hb hby at_15) rfl) ?_
  show ∃ t o, Steps p.tables e below (s₁.setTop (mkF m 16 #[.val (.int x1), .val (.int x2), .val (.int x3), .val (.int lc), .val (.int nl), .unset, .unset, .unset, .unset, .unset, .unset, .unset, .unset, .unset, .unset] [(.int (x2 &&& (255 : Int32)))])) t ∧ _
  refine own_go (fun _ => XS.i2c X0.here hx rfl (hb hby at_16) rfl) ?_
  refine own_go (fun _ => XS.istore X0.here hx rfl (hb hby at_17) rfl (l' := #[.val (.int x1), .val (.int x2), .val (.int x3), .val (.int lc), .val (.int nl), .val (.int ((x2 &&& (255 : Int32)).toUInt32.toUInt16.toUInt32.toInt32)), .unset, .unset, .unset, .unset, .unset, .unset, .unset, .unset, .unset]) rfl) ?_
  show ∃ t o, Steps p.tables e below (s₁.setTop (mkF m 19 #[.val (.int x1), .val (.int x2), .val (.int x3), .val (.int lc), .val (.int nl), .val (.int ((x2 &&& (255 : Int32)).toUInt32.toUInt16.toUInt32.toInt32)), .unset, .unset, .unset, .unset, .unset, .unset, .unset, .unset, .unset] [])) t ∧ _
  obtain ⟨y0, e_y0⟩ : ∃ z : Int32, z = ((x2 &&& (255 : Int32)).toUInt32.toUInt16.toUInt32.toInt32) := ⟨_, rfl⟩
  rw [← e_y0]
  have r_y0 : own_rg y0 := by rw [e_y0]; exact own_rgc _
  show ∃ t o, Steps p.tables e below (s₁.setTop (mkF m 19 #[.val (.int x1), .val (.int x2), .val (.int x3), .val (.int lc), .val (.int nl), .val (.int y0), .unset, .unset, .unset, .unset, .unset, .unset, .unset, .unset, .unset] [])) t ∧ _
  refine own_go (fun _ => XS.iloadN X0.here hx rfl (hb hby at_19) rfl) ?_
  refine own_go (fun _ => XS.bipush X0.here hx rfl (hb hby at_20)) ?_
  refine own_go (fun _ => XS.iushr X0.here hx rfl (hb hby at_22) rfl) ?_
  show ∃ t o, Steps p.tables e below (s₁.setTop (mkF m 23 #[.val (.int x1), .val (.int x2), .val (.int x3), .val (.int lc), .val (.int nl), .val (.int y0), .unset, .unset, .unset, .unset, .unset, .unset, .unset, .unset, .unset] [(.int ((x2.toUInt32 >>> ((8 : Int32) &&& 31).toUInt32).toInt32))])) t ∧ _
  refine own_go (fun _ => XS.sipush X0.here hx rfl (hb hby at_23)) ?_
  refine own_go (fun _ => XS.iand X0.here hx rfl (hb hby at_26) rfl) ?_
  refine own_go (fun _ => XS.i2c X0.here hx rfl (hb hby at_27) rfl) ?_
  show ∃ t o, Steps p.tables e below (s₁.setTop (mkF m 28 #[.val (.int x1), .val (.int x2), .val (.int x3), .val (.int lc), .val (.int nl), .val (.int y0), .unset, .unset, .unset, .unset, .unset, .unset, .unset, .unset, .unset] [(.int ((((x2.toUInt32 >>> ((8 : Int32) &&& 31).toUInt32).toInt32) &&& (255 : Int32)).toUInt32.toUInt16.toUInt32.toInt32))])) t ∧ _
  refine own_go (fun _ => XS.istore X0.here hx rfl (hb hby at_28) rfl (l' := #[.val (.int x1), .val (.int x2), .val (.int x3), .val (.int lc), .val (.int nl), .val (.int y0), .val (.int ((((x2.toUInt32 >>> ((8 : Int32) &&& 31).toUInt32).toInt32) &&& (255 : Int32)).toUInt32.toUInt16.toUInt32.toInt32)), .unset, .unset, .unset, .unset, .unset, .unset, .unset, .unset]) rfl) ?_
  show ∃ t o, Steps p.tables e below (s₁.setTop (mkF m 30 #[.val (.int x1), .val (.int x2), .val (.int x3), .val (.int lc), .val (.int nl), .val (.int y0), .val (.int ((((x2.toUInt32 >>> ((8 : Int32) &&& 31).toUInt32).toInt32) &&& (255 : Int32)).toUInt32.toUInt16.toUInt32.toInt32)), .unset, .unset, .unset, .unset, .unset, .unset, .unset, .unset] [])) t ∧ _
  obtain ⟨y1, e_y1⟩ : ∃ z : Int32, z = ((((x2.toUInt32 >>> ((8 : Int32) &&& 31).toUInt32).toInt32) &&& (255 : Int32)).toUInt32.toUInt16.toUInt32.toInt32) := ⟨_, rfl⟩
  rw [← e_y1]
  have r_y1 : own_rg y1 := by rw [e_y1]; exact own_rgc _
  show ∃ t o, Steps p.tables e below (s₁.setTop (mkF m 30 #[.val (.int x1), .val (.int x2), .val (.int x3), .val (.int lc), .val (.int nl), .val (.int y0), .val (.int y1), .unset, .unset, .unset, .unset, .unset, .unset, .unset, .unset] [])) t ∧ _
  refine own_go (fun _ => XS.iloadN X0.here hx rfl (hb hby at_30) rfl) ?_
  refine own_go (fun _ => XS.bipush X0.here hx rfl (hb hby at_31)) ?_
  refine own_go (fun _ => XS.iushr X0.here hx rfl (hb hby at_33) rfl) ?_
  show ∃ t o, Steps p.tables e below (s₁.setTop (mkF m 34 #[.val (.int x1), .val (.int x2), .val (.int x3), .val (.int lc), .val (.int nl), .val (.int y0), .val (.int y1), .unset, .unset, .unset, .unset, .unset, .unset, .unset, .unset] [(.int ((x2.toUInt32 >>> ((16 : Int32) &&& 31).toUInt32).toInt32))])) t ∧ _
  refine own_go (fun _ => XS.sipush X0.here hx rfl (hb hby at_34)) ?_
  refine own_go (fun _ => XS.iand X0.here hx rfl (hb hby at_37) rfl) ?_
  refine own_go (fun _ => XS.i2c X0.here hx rfl (hb hby at_38) rfl) ?_
  show ∃ t o, Steps p.tables e below (s₁.setTop (mkF m 39 #[.val (.int x1), .val (.int x2), .val (.int x3), .val (.int lc), .val (.int nl), .val (.int y0), .val (.int y1), .unset, .unset, .unset, .unset, .unset, .unset, .unset, .unset] [(.int ((((x2.toUInt32 >>> ((16 : Int32) &&& 31).toUInt32).toInt32) &&& (255 : Int32)).toUInt32.toUInt16.toUInt32.toInt32))])) t ∧ _
  refine own_go (fun _ => XS.istore X0.here hx rfl (hb hby at_39) rfl (l' := #[.val (.int x1), .val (.int x2), .val (.int x3), .val (.int lc), .val (.int nl), .val (.int y0), .val (.int y1), .val (.int ((((x2.toUInt32 >>> ((16 : Int32) &&& 31).toUInt32).toInt32) &&& (255 : Int32)).toUInt32.toUInt16.toUInt32.toInt32)), .unset, .unset, .unset, .unset, .unset, .unset, .unset]) rfl) ?_
  show ∃ t o, Steps p.tables e below (s₁.setTop (mkF m 41 #[.val (.int x1), .val (.int x2), .val (.int x3), .val (.int lc), .val (.int nl), .val (.int y0), .val (.int y1), .val (.int ((((x2.toUInt32 >>> ((16 : Int32) &&& 31).toUInt32).toInt32) &&& (255 : Int32)).toUInt32.toUInt16.toUInt32.toInt32)), .unset, .unset, .unset, .unset, .unset, .unset, .unset] [])) t ∧ _
  obtain ⟨y2, e_y2⟩ : ∃ z : Int32, z = ((((x2.toUInt32 >>> ((16 : Int32) &&& 31).toUInt32).toInt32) &&& (255 : Int32)).toUInt32.toUInt16.toUInt32.toInt32) := ⟨_, rfl⟩
  rw [← e_y2]
  have r_y2 : own_rg y2 := by rw [e_y2]; exact own_rgc _
  show ∃ t o, Steps p.tables e below (s₁.setTop (mkF m 41 #[.val (.int x1), .val (.int x2), .val (.int x3), .val (.int lc), .val (.int nl), .val (.int y0), .val (.int y1), .val (.int y2), .unset, .unset, .unset, .unset, .unset, .unset, .unset] [])) t ∧ _
  refine own_go (fun _ => XS.iloadN X0.here hx rfl (hb hby at_41) rfl) ?_
  refine own_go (fun _ => XS.sipush X0.here hx rfl (hb hby at_42)) ?_
  refine own_go (fun _ => XS.iand X0.here hx rfl (hb hby at_45) rfl) ?_
  show ∃ t o, Steps p.tables e below (s₁.setTop (mkF m 46 #[.val (.int x1), .val (.int x2), .val (.int x3), .val (.int lc), .val (.int nl), .val (.int y0), .val (.int y1), .val (.int y2), .unset, .unset, .unset, .unset, .unset, .unset, .unset] [(.int (x3 &&& (255 : Int32)))])) t ∧ _
  refine own_go (fun _ => XS.i2c X0.here hx rfl (hb hby at_46) rfl) ?_
  refine own_go (fun _ => XS.istore X0.here hx rfl (hb hby at_47) rfl (l' := #[.val (.int x1), .val (.int x2), .val (.int x3), .val (.int lc), .val (.int nl), .val (.int y0), .val (.int y1), .val (.int y2), .val (.int ((x3 &&& (255 : Int32)).toUInt32.toUInt16.toUInt32.toInt32)), .unset, .unset, .unset, .unset, .unset, .unset]) rfl) ?_
  show ∃ t o, Steps p.tables e below (s₁.setTop (mkF m 49 #[.val (.int x1), .val (.int x2), .val (.int x3), .val (.int lc), .val (.int nl), .val (.int y0), .val (.int y1), .val (.int y2), .val (.int ((x3 &&& (255 : Int32)).toUInt32.toUInt16.toUInt32.toInt32)), .unset, .unset, .unset, .unset, .unset, .unset] [])) t ∧ _
  obtain ⟨z0, e_z0⟩ : ∃ z : Int32, z = ((x3 &&& (255 : Int32)).toUInt32.toUInt16.toUInt32.toInt32) := ⟨_, rfl⟩
  rw [← e_z0]
  have r_z0 : own_rg z0 := by rw [e_z0]; exact own_rgc _
  show ∃ t o, Steps p.tables e below (s₁.setTop (mkF m 49 #[.val (.int x1), .val (.int x2), .val (.int x3), .val (.int lc), .val (.int nl), .val (.int y0), .val (.int y1), .val (.int y2), .val (.int z0), .unset, .unset, .unset, .unset, .unset, .unset] [])) t ∧ _
  refine own_go (fun _ => XS.iloadN X0.here hx rfl (hb hby at_49) rfl) ?_
  refine own_go (fun _ => XS.bipush X0.here hx rfl (hb hby at_50)) ?_
  refine own_go (fun _ => XS.iushr X0.here hx rfl (hb hby at_52) rfl) ?_
  show ∃ t o, Steps p.tables e below (s₁.setTop (mkF m 53 #[.val (.int x1), .val (.int x2), .val (.int x3), .val (.int lc), .val (.int nl), .val (.int y0), .val (.int y1), .val (.int y2), .val (.int z0), .unset, .unset, .unset, .unset, .unset, .unset] [(.int ((x3.toUInt32 >>> ((8 : Int32) &&& 31).toUInt32).toInt32))])) t ∧ _
  refine own_go (fun _ => XS.sipush X0.here hx rfl (hb hby at_53)) ?_
  refine own_go (fun _ => XS.iand X0.here hx rfl (hb hby at_56) rfl) ?_
  refine own_go (fun _ => XS.i2c X0.here hx rfl (hb hby at_57) rfl) ?_
  show ∃ t o, Steps p.tables e below (s₁.setTop (mkF m 58 #[.val (.int x1), .val (.int x2), .val (.int x3), .val (.int lc), .val (.int nl), .val (.int y0), .val (.int y1), .val (.int y2), .val (.int z0), .unset, .unset, .unset, .unset, .unset, .unset] [(.int ((((x3.toUInt32 >>> ((8 : Int32) &&& 31).toUInt32).toInt32) &&& (255 : Int32)).toUInt32.toUInt16.toUInt32.toInt32))])) t ∧ _
  refine own_go (fun _ => XS.istore X0.here hx rfl (hb hby at_58) rfl (l' := #[.val (.int x1), .val (.int x2), .val (.int x3), .val (.int lc), .val (.int nl), .val (.int y0), .val (.int y1), .val (.int y2), .val (.int z0), .val (.int ((((x3.toUInt32 >>> ((8 : Int32) &&& 31).toUInt32).toInt32) &&& (255 : Int32)).toUInt32.toUInt16.toUInt32.toInt32)), .unset, .unset, .unset, .unset, .unset]) rfl) ?_
  show ∃ t o, Steps p.tables e below (s₁.setTop (mkF m 60 #[.val (.int x1), .val (.int x2), .val (.int x3), .val (.int lc), .val (.int nl), .val (.int y0), .val (.int y1), .val (.int y2), .val (.int z0), .val (.int ((((x3.toUInt32 >>> ((8 : Int32) &&& 31).toUInt32).toInt32) &&& (255 : Int32)).toUInt32.toUInt16.toUInt32.toInt32)), .unset, .unset, .unset, .unset, .unset] [])) t ∧ _
  obtain ⟨z1, e_z1⟩ : ∃ z : Int32, z = ((((x3.toUInt32 >>> ((8 : Int32) &&& 31).toUInt32).toInt32) &&& (255 : Int32)).toUInt32.toUInt16.toUInt32.toInt32) := ⟨_, rfl⟩
  rw [← e_z1]
  have r_z1 : own_rg z1 := by rw [e_z1]; exact own_rgc _
  show ∃ t o, Steps p.tables e below (s₁.setTop (mkF m 60 #[.val (.int x1), .val (.int x2), .val (.int x3), .val (.int lc), .val (.int nl), .val (.int y0), .val (.int y1), .val (.int y2), .val (.int z0), .val (.int z1), .unset, .unset, .unset, .unset, .unset] [])) t ∧ _
  refine own_go (fun _ => XS.iloadN X0.here hx rfl (hb hby at_60) rfl) ?_
  refine own_go (fun _ => XS.bipush X0.here hx rfl (hb hby at_61)) ?_
  refine own_go (fun _ => XS.iushr X0.here hx rfl (hb hby at_63) rfl) ?_
  show ∃ t o, Steps p.tables e below (s₁.setTop (mkF m 64 #[.val (.int x1), .val (.int x2), .val (.int x3), .val (.int lc), .val (.int nl), .val (.int y0), .val (.int y1), .val (.int y2), .val (.int z0), .val (.int z1), .unset, .unset, .unset, .unset, .unset] [(.int ((x3.toUInt32 >>> ((16 : Int32) &&& 31).toUInt32).toInt32))])) t ∧ _
  refine own_go (fun _ => XS.sipush X0.here hx rfl (hb hby at_64)) ?_
  refine own_go (fun _ => XS.iand X0.here hx rfl (hb hby at_67) rfl) ?_
  refine own_go (fun _ => XS.i2c X0.here hx rfl (hb hby at_68) rfl) ?_
  show ∃ t o, Steps p.tables e below (s₁.setTop (mkF m 69 #[.val (.int x1), .val (.int x2), .val (.int x3), .val (.int lc), .val (.int nl), .val (.int y0), .val (.int y1), .val (.int y2), .val (.int z0), .val (.int z1), .unset, .unset, .unset, .unset, .unset] [(.int ((((x3.toUInt32 >>> ((16 : Int32) &&& 31).toUInt32).toInt32) &&& (255 : Int32)).toUInt32.toUInt16.toUInt32.toInt32))])) t ∧ _
  refine own_go (fun _ => XS.istore X0.here hx rfl (hb hby at_69) rfl (l' := #[.val (.int x1), .val (.int x2), .val (.int x3), .val (.int lc), .val (.int nl), .val (.int y0), .val (.int y1), .val (.int y2), .val (.int z0), .val (.int z1), .val (.int ((((x3.toUInt32 >>> ((16 : Int32) &&& 31).toUInt32).toInt32) &&& (255 : Int32)).toUInt32.toUInt16.toUInt32.toInt32)), .unset, .unset, .unset, .unset]) rfl) ?_
  show ∃ t o, Steps p.tables e below (s₁.setTop (mkF m 71 #[.val (.int x1), .val (.int x2), .val (.int x3), .val (.int lc), .val (.int nl), .val (.int y0), .val (.int y1), .val (.int y2), .val (.int z0), .val (.int z1), .val (.int ((((x3.toUInt32 >>> ((16 : Int32) &&& 31).toUInt32).toInt32) &&& (255 : Int32)).toUInt32.toUInt16.toUInt32.toInt32)), .unset, .unset, .unset, .unset] [])) t ∧ _
  obtain ⟨z2, e_z2⟩ : ∃ z : Int32, z = ((((x3.toUInt32 >>> ((16 : Int32) &&& 31).toUInt32).toInt32) &&& (255 : Int32)).toUInt32.toUInt16.toUInt32.toInt32) := ⟨_, rfl⟩
  rw [← e_z2]
  have r_z2 : own_rg z2 := by rw [e_z2]; exact own_rgc _
  show ∃ t o, Steps p.tables e below (s₁.setTop (mkF m 71 #[.val (.int x1), .val (.int x2), .val (.int x3), .val (.int lc), .val (.int nl), .val (.int y0), .val (.int y1), .val (.int y2), .val (.int z0), .val (.int z1), .val (.int z2), .unset, .unset, .unset, .unset] [])) t ∧ _
  refine own_go (fun _ => XS.iloadN X0.here hx rfl (hb hby at_71) rfl) ?_
  refine own_go (fun _ => XS.iload X0.here hx rfl (hb hby at_72) rfl) ?_
  refine own_go (fun _ => XS.iload X0.here hx rfl (hb hby at_74) rfl) ?_
  show ∃ t o, Steps p.tables e below (s₁.setTop (mkF m 76 #[.val (.int x1), .val (.int x2), .val (.int x3), .val (.int lc), .val (.int nl), .val (.int y0), .val (.int y1), .val (.int y2), .val (.int z0), .val (.int z1), .val (.int z2), .unset, .unset, .unset, .unset] [(.int y1), (.int y0), (.int lc)])) t ∧ _
  refine own_go (fun _ => XS.iload X0.here hx rfl (hb hby at_76) rfl) ?_
  show ∃ t o, Steps p.tables e below (s₁.setTop (mkF m 78 #[.val (.int x1), .val (.int x2), .val (.int x3), .val (.int lc), .val (.int nl), .val (.int y0), .val (.int y1), .val (.int y2), .val (.int z0), .val (.int z1), .val (.int z2), .unset, .unset, .unset, .unset] [(.int y2), (.int y1), (.int y0), (.int lc)])) t ∧ _
  obtain ⟨_, _, ⟨T3, L3, k3, n3⟩, -, X3, hSn3, hgn3, ⟨Lc3, hQ3, l3, y3, z3, cr3⟩, st3⟩ := callSS X0 hx (y := (⟨"com/example/ipomoea/ipomoea/store/JobKeyToStringPinLaw", "mk", "(ICCC)Ljava/lang/String;"⟩ : MethodName)) hown (mvT hZ (hw _ (List.mem_of_getElem? (i := 0) rfl))) (mvT hZ (hw _ (List.mem_of_getElem? (i := 1) rfl))) (mvT hZ (hw _ (List.mem_of_getElem? (i := 2) rfl))) (mvT hZ (hw _ (List.mem_of_getElem? (i := 3) rfl))) (by decide) (backOfSH (W := 0) (rmMk l Z a0 hw [] lc y0 y1 y2 zc h0 n0 Z0 OLD P1 hzc (r_y0 : own_rg y0) (r_y1 : own_rg y1) (r_y2 : own_rg y2) (r_lc : own_4 lc) hEL) hZ (hw _ (List.mem_of_getElem? (i := 3) rfl)) (hw _ (List.mem_of_getElem? (i := 2) rfl)) (by decide) (by decide) hEL CH0.1) (g := (mkF m 78 #[.val (.int x1), .val (.int x2), .val (.int x3), .val (.int lc), .val (.int nl), .val (.int y0), .val (.int y1), .val (.int y2), .val (.int z0), .val (.int z1), .val (.int z2), .unset, .unset, .unset, .unset] [(.int y2), (.int y1), (.int y0), (.int lc)])) rfl (by rw [hml]; rfl) (argsL := [(.int lc), (.int y0), (.int y1), (.int y2)]) (rest := []) (lenOf pd__28ICCC_29Ljava_2flang_2fString_3b rfl) rfl (by show 2 * 0 + _ ≤ _; exact Nat.le_of_eq rfl) (hb hby at_78) (fun _ _ => ⟨rfl, e0, (by decide : 0 + 6 ≤ _), (by decide : 0 + 12 ≤ _)⟩)
  dsimp only [Pt.U, Pt.locs, Pt.cells, Pt.slots] at X3 l3 y3 z3 st3 hQ3 hSn3 hgn3 cr3
  rw [l3, y3, z3] at X3
  have hZ : Z.Warmed39 (s.setVm T3.vm).vm := State.Warmed39.trans (t := s.setVm s.vm) hZ hSn3.1
  have hown : (s.setVm T3.vm).vm.findClass "com/example/ipomoea/ipomoea/store/JobKeyToStringPinLaw" = some m.cls := by rw [show (s.setVm T3.vm).vm = T3.vm from rfl, hSn3.1.alike.findClass]; exact hown
  have hS : s.Since T3.vm T3.heap.size := foldS (T := s₁) hS (Nat.zero_le _) hSn3 hgn3
  have X3 : Stand p l e _ (s.setVm T3.vm) m _ below meth c T3 _ _ _ := X3
  obtain ⟨b_3, tb_3, kb_3, nn_3, vs_3, rfl, Nq3, Kp3, G3_0, G3_1, G3_2, G3_3, H3_0, H3_1, H3_2, H3_3⟩ := hQ3
  have N3 := Fr.app N0 Nq3
  refine own_goT st3 ?_
  have le_3 : h0.size ≤ T3.heap.size := Kp3.1
  have K3 : Keep h0 T3.heap [] := Keep.trans (Keep.refl h0 []) Kp3 all0
  have CH4 := CHr.trans CH0 cr3
  have lt_b_3 : b_3 < T3.heap.size := (G3_0).lt
  have lt_tb_3 : tb_3 < T3.heap.size := (G3_3).lt
  refine own_go (fun _ => XS.astore X3.here hx rfl (hb hby at_81) rfl rfl (l' := #[.val (.int x1), .val (.int x2), .val (.int x3), .val (.int lc), .val (.int nl), .val (.int y0), .val (.int y1), .val (.int y2), .val (.int z0), .val (.int z1), .val (.int z2), .val (.ref b_3), .unset, .unset, .unset]) rfl) ?_
  refine own_go (fun _ => XS.iload X3.here hx rfl (hb hby at_83) rfl) ?_
  show ∃ t o, Steps p.tables e below (T3.setTop (mkF m 85 #[.val (.int x1), .val (.int x2), .val (.int x3), .val (.int lc), .val (.int nl), .val (.int y0), .val (.int y1), .val (.int y2), .val (.int z0), .val (.int z1), .val (.int z2), .val (.ref b_3), .unset, .unset, .unset] [(.int nl)])) t ∧ _
  refine own_go (fun _ => XS.iload X3.here hx rfl (hb hby at_85) rfl) ?_
  refine own_go (fun _ => XS.iload X3.here hx rfl (hb hby at_87) rfl) ?_
  refine own_go (fun _ => XS.iload X3.here hx rfl (hb hby at_89) rfl) ?_
  show ∃ t o, Steps p.tables e below (T3.setTop (mkF m 91 #[.val (.int x1), .val (.int x2), .val (.int x3), .val (.int lc), .val (.int nl), .val (.int y0), .val (.int y1), .val (.int y2), .val (.int z0), .val (.int z1), .val (.int z2), .val (.ref b_3), .unset, .unset, .unset] [(.int z2), (.int z1), (.int z0), (.int nl)])) t ∧ _
  have F5 : Old Z n0 T3.heap := (Old.keep OLD Kp3 all0)
  have zl6 : n0 ≤ T3.heap.size := by omega
  obtain ⟨_, _, ⟨T7, L7, k7, n7⟩, -, X7, hSn7, hgn7, ⟨Lc7, hQ7, l7, y7, z7, cr7⟩, st7⟩ := callSS X3 hx (y := (⟨"com/example/ipomoea/ipomoea/store/JobKeyToStringPinLaw", "mk", "(ICCC)Ljava/lang/String;"⟩ : MethodName)) hown (mvT hZ (hw _ (List.mem_of_getElem? (i := 0) rfl))) (mvT hZ (hw _ (List.mem_of_getElem? (i := 1) rfl))) (mvT hZ (hw _ (List.mem_of_getElem? (i := 2) rfl))) (mvT hZ (hw _ (List.mem_of_getElem? (i := 3) rfl))) (by decide) (backOfSH (W := 0) (rmMk l Z a0 hw [] nl z0 z1 z2 zc T3.heap n0 zl6 F5 P1 hzc (r_z0 : own_rg z0) (r_z1 : own_rg z1) (r_z2 : own_rg z2) (r_nl : own_4 nl) hEL) hZ (hw _ (List.mem_of_getElem? (i := 3) rfl)) (hw _ (List.mem_of_getElem? (i := 2) rfl)) (by decide) (by decide) hEL CH4.1) (g := (mkF m 91 #[.val (.int x1), .val (.int x2), .val (.int x3), .val (.int lc), .val (.int nl), .val (.int y0), .val (.int y1), .val (.int y2), .val (.int z0), .val (.int z1), .val (.int z2), .val (.ref b_3), .unset, .unset, .unset] [(.int z2), (.int z1), (.int z0), (.int nl)])) rfl (by rw [hml]; rfl) (argsL := [(.int nl), (.int z0), (.int z1), (.int z2)]) (rest := []) (lenOf pd__28ICCC_29Ljava_2flang_2fString_3b rfl) rfl (by show 2 * 0 + _ ≤ _; exact Nat.le_of_eq rfl) (hb hby at_91) (fun _ _ => ⟨rfl, rfl, (by decide : 6 + 6 ≤ _), (by decide : 12 + 12 ≤ _)⟩)
  dsimp only [Pt.U, Pt.locs, Pt.cells, Pt.slots] at X7 l7 y7 z7 st7 hQ7 hSn7 hgn7 cr7
  rw [l7, y7, z7] at X7
  have hZ : Z.Warmed39 (s.setVm T7.vm).vm := State.Warmed39.trans (t := s.setVm T3.vm) hZ hSn7.1
  have hown : (s.setVm T7.vm).vm.findClass "com/example/ipomoea/ipomoea/store/JobKeyToStringPinLaw" = some m.cls := by rw [show (s.setVm T7.vm).vm = T7.vm from rfl, hSn7.1.alike.findClass]; exact hown
  have hS : s.Since T7.vm T7.heap.size := foldS (T := T3) hS (by omega) hSn7 hgn7
  have X7 : Stand p l e _ (s.setVm T7.vm) m _ below meth c T7 _ _ _ := X7
  obtain ⟨b_7, tb_7, kb_7, nn_7, vs_7, rfl, Nq7, Kp7, G7_0, G7_1, G7_2, G7_3, H7_0, H7_1, H7_2, H7_3⟩ := hQ7
  have N7 := Fr.app N3 Nq7
  refine own_goT st7 ?_
  have le_7 : T3.heap.size ≤ T7.heap.size := Kp7.1
  have K7 : Keep h0 T7.heap [] := Keep.trans K3 Kp7 all0
  have CH8 := CHr.trans CH4 cr7
  have lt_b_7 : b_7 < T7.heap.size := (G7_0).lt
  have lt_tb_7 : tb_7 < T7.heap.size := (G7_3).lt
  refine own_go (fun _ => XS.astore X7.here hx rfl (hb hby at_94) rfl rfl (l' := #[.val (.int x1), .val (.int x2), .val (.int x3), .val (.int lc), .val (.int nl), .val (.int y0), .val (.int y1), .val (.int y2), .val (.int z0), .val (.int z1), .val (.int z2), .val (.ref b_3), .val (.ref b_7), .unset, .unset]) rfl) ?_
  show ∃ t o, Steps p.tables e below (T7.setTop (mkF m 96 #[.val (.int x1), .val (.int x2), .val (.int x3), .val (.int lc), .val (.int nl), .val (.int y0), .val (.int y1), .val (.int y2), .val (.int z0), .val (.int z1), .val (.int z2), .val (.ref b_3), .val (.ref b_7), .unset, .unset] [])) t ∧ _
  obtain ⟨T9, h9, X9, e9, E9, A9, D9, -, st9⟩ := newO X7 hx hZ hown (hw _ (List.mem_of_getElem? (i := 26) rfl)) (hw _ (List.mem_of_getElem? (i := 27) rfl)) (hw _ (List.mem_of_getElem? (i := 28) rfl)) rfl (g := (mkF m 96 #[.val (.int x1), .val (.int x2), .val (.int x3), .val (.int lc), .val (.int nl), .val (.int y0), .val (.int y1), .val (.int y2), .val (.int z0), .val (.int z1), .val (.int z2), .val (.ref b_3), .val (.ref b_7), .unset, .unset] [])) rfl (hb hby at_96) (by decide) (by decide)
  obtain ⟨b9, g9⟩ : ∃ z, z = T7.heap.size := ⟨_, rfl⟩
  rw [← g9] at A9 D9 st9
  refine own_go st9 ?_
  have le_9 : T7.heap.size ≤ h9.size := E9.1
  have lt_b9 : b9 < h9.size := A9.lt
  have F_collection_b9 : Fld Z h9 b9 "com/example/ipomoea/ipomoea/store/JobKey" "collection" "Ljava/lang/String;" .null := D9 (Or.inr (hw _ (List.mem_of_getElem? (i := 40) rfl))) (ty := (.object "java/lang/String")) (by decide)
  have F_name_b9 : Fld Z h9 b9 "com/example/ipomoea/ipomoea/store/JobKey" "name" "Ljava/lang/String;" .null := D9 (Or.inr (hw _ (List.mem_of_getElem? (i := 43) rfl))) (ty := (.object "java/lang/String")) (by decide)
  have K9 : Keep h0 h9 [] := Keep.ext K7 E9
  have CH10 := CHr.trans CH8 (CHr.ext E9 CH8.1)
  refine own_go (fun _ => XS.dup X9.here hx rfl (hb hby at_99) rfl rfl) ?_
  refine own_go (fun _ => XS.aload X9.here hx rfl (hb hby at_100) rfl rfl) ?_
  show ∃ t o, Steps p.tables e below (T9.setTop (mkF m 102 #[.val (.int x1), .val (.int x2), .val (.int x3), .val (.int lc), .val (.int nl), .val (.int y0), .val (.int y1), .val (.int y2), .val (.int z0), .val (.int z1), .val (.int z2), .val (.ref b_3), .val (.ref b_7), .unset, .unset] [(.ref b_3), (.ref b9), (.ref b9)])) t ∧ _
  refine own_go (fun _ => XS.aload X9.here hx rfl (hb hby at_102) rfl rfl) ?_
  show ∃ t o, Steps p.tables e below (T9.setTop (mkF m 104 #[.val (.int x1), .val (.int x2), .val (.int x3), .val (.int lc), .val (.int nl), .val (.int y0), .val (.int y1), .val (.int y2), .val (.int z0), .val (.int z1), .val (.int z2), .val (.ref b_3), .val (.ref b_7), .unset, .unset] [(.ref b_7), (.ref b_3), (.ref b9), (.ref b9)])) t ∧ _
  have F11 : Exa Z h9 b_3 "java/lang/String" := (Exa.ext E9 (Exa.keep G3_0 Kp7))
  have F12 : Exa Z h9 b_7 "java/lang/String" := (Exa.ext E9 G7_0)
  have F13 : Old Z n0 h9 := ((Old.keep F5 Kp7 all0).ext E9)
  have ge14 : n0 ≤ b9 := by omega
  have zl15 : n0 ≤ h9.size := by omega
  obtain ⟨_, _, ⟨T16, L16, k16, n16⟩, -, X16, hSn16, hgn16, ⟨Lc16, hQ16, l16, y16, z16, cr16⟩, st16⟩ := X9.specialBackS hx (y := (⟨"com/example/ipomoea/ipomoea/store/JobKey", "<init>", "(Ljava/lang/String;Ljava/lang/String;)V"⟩ : MethodName)) rfl hown (mvT hZ (hw _ (List.mem_of_getElem? (i := 29) rfl))) (mvT hZ (hw _ (List.mem_of_getElem? (i := 30) rfl))) (mvT hZ (hw _ (List.mem_of_getElem? (i := 31) rfl))) (by decide) (backOfSH (W := 1) (rmJI l Z a0 hw [] b9 b_3 b_7 h9 n0 zl15 A9 F_collection_b9 F_name_b9 F11 F12 F13 ge14 hEL) hZ (hw _ (List.mem_of_getElem? (i := 31) rfl)) (hw _ (List.mem_of_getElem? (i := 28) rfl)) (by decide) (by decide) hEL CH10.1) (g := (mkF m 104 #[.val (.int x1), .val (.int x2), .val (.int x3), .val (.int lc), .val (.int nl), .val (.int y0), .val (.int y1), .val (.int y2), .val (.int z0), .val (.int z1), .val (.int z2), .val (.ref b_3), .val (.ref b_7), .unset, .unset] [(.ref b_7), (.ref b_3), (.ref b9), (.ref b9)])) rfl (by rw [hml]; rfl) (Steps.refl _) (a := b9) (argsL := [(.ref b_3), (.ref b_7)]) (rest := [(.ref b9)]) (lenOf pd__28Ljava_2flang_2fString_3bLjava_2flang_2fString_3b_29V rfl) rfl (by show 2 * 0 + _ ≤ _; exact Nat.le_of_eq rfl) (hb hby at_104) (fun _ _ => ⟨rfl, e9, (by decide : 13 + 4 ≤ _), (by decide : 26 + 64 ≤ _)⟩)
  dsimp only [Pt.U, Pt.locs, Pt.cells, Pt.slots] at X16 l16 y16 z16 st16 hQ16 hSn16 hgn16 cr16
  rw [l16, y16, z16] at X16
  have hZ : Z.Warmed39 (s.setVm T16.vm).vm := State.Warmed39.trans (t := s.setVm T7.vm) hZ hSn16.1
  have hown : (s.setVm T16.vm).vm.findClass "com/example/ipomoea/ipomoea/store/JobKeyToStringPinLaw" = some m.cls := by rw [show (s.setVm T16.vm).vm = T16.vm from rfl, hSn16.1.alike.findClass]; exact hown
  have hS : s.Since T16.vm T16.heap.size := foldS (T := T9) hS (by rw [e9]; omega) hSn16 hgn16
  have X16 : Stand p l e _ (s.setVm T16.vm) m _ below meth c T16 _ _ _ := X16
  obtain ⟨rfl, Nq16, Kp16, G16_0, G16_1, G16_2⟩ := hQ16
  have N16 := Fr.app N7 Nq16
  refine own_goT st16 ?_
  have le_16 : h9.size ≤ T16.heap.size := Kp16.1
  have sz17 : h0.size ≤ b9 := by omega
  have K16 : Keep h0 T16.heap [] := Keep.trans K9 Kp16 (allS (Or.inr sz17) all0)
  have CH18 := CHr.trans CH10 cr16
  show ∃ t o, Steps p.tables e below (T16.setTop (mkF m 107 #[.val (.int x1), .val (.int x2), .val (.int x3), .val (.int lc), .val (.int nl), .val (.int y0), .val (.int y1), .val (.int y2), .val (.int z0), .val (.int z1), .val (.int z2), .val (.ref b_3), .val (.ref b_7), .unset, .unset] [(.ref b9)])) t ∧ _
  have F19 : Exa Z T16.heap b_3 "java/lang/String" := (Exa.keep F11 Kp16)
  have ne20 : b_3 ≠ b9 := own_ne (by omega)
  have F21 : Fld Z T16.heap b_3 "java/lang/String" "value" "[B" (.ref tb_3) := (Fld.keep (Fld.ext E9 (Fld.keep G3_1 Kp7 nin0)) Kp16 (ninS ne20 nin0))
  have F22 : Fld Z T16.heap b_3 "java/lang/String" "coder" "B" (.int (0 : Int32)) := (Fld.keep (Fld.ext E9 (Fld.keep G3_2 Kp7 nin0)) Kp16 (ninS ne20 nin0))
  have ne23 : tb_3 ≠ b9 := own_ne (by omega)
  have F24 : Arv Z T16.heap tb_3 kb_3 .byte nn_3 vs_3 (.int (0 : Int32)) := (Arv.keep ((Arv.keep G3_3 Kp7 nin0).ext E9) Kp16 (ninS ne23 nin0))
  have F25 : Exa Z T16.heap b_7 "java/lang/String" := (Exa.keep F12 Kp16)
  have ne26 : b_7 ≠ b9 := own_ne (by omega)
  have F27 : Fld Z T16.heap b_7 "java/lang/String" "value" "[B" (.ref tb_7) := (Fld.keep (Fld.ext E9 G7_1) Kp16 (ninS ne26 nin0))
  have F28 : Fld Z T16.heap b_7 "java/lang/String" "coder" "B" (.int (0 : Int32)) := (Fld.keep (Fld.ext E9 G7_2) Kp16 (ninS ne26 nin0))
  have ne29 : tb_7 ≠ b9 := own_ne (by omega)
  have F30 : Arv Z T16.heap tb_7 kb_7 .byte nn_7 vs_7 (.int (0 : Int32)) := (Arv.keep (G7_3.ext E9) Kp16 (ninS ne29 nin0))
  have F31 : Old Z n0 T16.heap := (Old.keep F13 Kp16 (allS ge14 all0))
  have zl32 : n0 ≤ T16.heap.size := by omega
  obtain ⟨cq33, kq33, q33a, q33b, q33c⟩ := isOf hZ rfl G16_0
  obtain ⟨_, _, ⟨T33, L33, k33, n33⟩, -, X33, hSn33, hgn33, ⟨Lc33, hQ33, l33, y33, z33, cr33⟩, st33⟩ := X16.virtualBackS hx (y := (⟨"com/example/ipomoea/ipomoea/store/JobKey", "toString", "()Ljava/lang/String;"⟩ : MethodName)) (z := (⟨"com/example/ipomoea/ipomoea/store/JobKey", "toString", "()Ljava/lang/String;"⟩ : MethodName)) hown (mvT hZ (hw _ (List.mem_of_getElem? (i := 44) rfl))) (mvT hZ (hw _ (List.mem_of_getElem? (i := 45) rfl))) (notFace_of_selects (args := #[]) (mvT hZ (hw _ (List.mem_of_getElem? (i := 47) rfl)))) (mvT hZ (hw _ (List.mem_of_getElem? (i := 47) rfl))) (mvT hZ (hw _ (List.mem_of_getElem? (i := 46) rfl))) (by decide) (backOfSH (W := 0) (rmJTs l Z a0 hw [] b9 b_3 b_7 tb_3 kb_3 nn_3 vs_3 tb_7 kb_7 nn_7 vs_7 zc T16.heap n0 zl32 G16_0 G16_1 G16_2 F19 F21 F22 F24 F25 F27 F28 F30 F31 P1 hzc (H3_0 : own_fit vs_3 nn_3) (H7_0 : own_fit vs_7 nn_7) (by rw [H3_1]; exact own_vsl) (by rw [H7_1]; exact own_vsl) hEL) hZ (hw _ (List.mem_of_getElem? (i := 48) rfl)) (hw _ (List.mem_of_getElem? (i := 28) rfl)) (by decide) (by decide) hEL CH18.1) q33a q33c (g := (mkF m 107 #[.val (.int x1), .val (.int x2), .val (.int x3), .val (.int lc), .val (.int nl), .val (.int y0), .val (.int y1), .val (.int y2), .val (.int z0), .val (.int z1), .val (.int z2), .val (.ref b_3), .val (.ref b_7), .unset, .unset] [(.ref b9)])) rfl (by rw [hml]; rfl) (Steps.refl _) (argsL := []) (rest := []) (lenOf pd__28_29Ljava_2flang_2fString_3b rfl) rfl (by show 2 * 0 + _ ≤ _; exact Nat.le_of_eq rfl) (hb hby at_107) (fun _ _ => ⟨rfl, rfl, (by decide : 17 + 6 ≤ _), (by decide : 90 + 47 ≤ _)⟩)
  dsimp only [Pt.U, Pt.locs, Pt.cells, Pt.slots] at X33 l33 y33 z33 st33 hQ33 hSn33 hgn33 cr33
  rw [l33, y33, z33] at X33
  have hZ : Z.Warmed39 (s.setVm T33.vm).vm := State.Warmed39.trans (t := s.setVm T16.vm) hZ hSn33.1
  have hown : (s.setVm T33.vm).vm.findClass "com/example/ipomoea/ipomoea/store/JobKeyToStringPinLaw" = some m.cls := by rw [show (s.setVm T33.vm).vm = T33.vm from rfl, hSn33.1.alike.findClass]; exact hown
  have hS : s.Since T33.vm T33.heap.size := foldS (T := T16) hS (by omega) hSn33 hgn33
  have X33 : Stand p l e _ (s.setVm T33.vm) m _ below meth c T33 _ _ _ := X33
  obtain ⟨b_33, tb_33, kb_33, rfl, Nq33, Kp33, G33_0, G33_1, G33_2, G33_3, H33_0⟩ := hQ33
  have N33 := Fr.app N16 Nq33
  refine own_goT st33 ?_
  have le_33 : T16.heap.size ≤ T33.heap.size := Kp33.1
  have K33 : Keep h0 T33.heap [] := Keep.trans K16 Kp33 all0
  have CH34 := CHr.trans CH18 cr33
  have lt_b_33 : b_33 < T33.heap.size := (G33_0).lt
  have lt_tb_33 : tb_33 < T33.heap.size := (G33_3).lt
  refine own_go (fun _ => XS.astore X33.here hx rfl (hb hby at_110) rfl rfl (l' := #[.val (.int x1), .val (.int x2), .val (.int x3), .val (.int lc), .val (.int nl), .val (.int y0), .val (.int y1), .val (.int y2), .val (.int z0), .val (.int z1), .val (.int z2), .val (.ref b_3), .val (.ref b_7), .val (.ref b_33), .unset]) rfl) ?_
  refine own_go (fun _ => XS.aload X33.here hx rfl (hb hby at_112) rfl rfl) ?_
  show ∃ t o, Steps p.tables e below (T33.setTop (mkF m 114 #[.val (.int x1), .val (.int x2), .val (.int x3), .val (.int lc), .val (.int nl), .val (.int y0), .val (.int y1), .val (.int y2), .val (.int z0), .val (.int z1), .val (.int z2), .val (.ref b_3), .val (.ref b_7), .val (.ref b_33), .unset] [(.ref b_33)])) t ∧ _
  refine own_go (fun _ => XS.ifnonnullYes X33.here hx rfl (pc0 := 114) (pc' := 119) rfl (hb hby at_114) rfl (by decide) (by decide)) ?_
  refine own_go (fun _ => XS.iloadN X33.here hx rfl (hb hby at_119) rfl) ?_
  refine own_go (fun _ => XS.iconst X33.here hx rfl (hb hby at_120)) ?_
  show ∃ t o, Steps p.tables e below (T33.setTop (mkF m 121 #[.val (.int x1), .val (.int x2), .val (.int x3), .val (.int lc), .val (.int nl), .val (.int y0), .val (.int y1), .val (.int y2), .val (.int z0), .val (.int z1), .val (.int z2), .val (.ref b_3), .val (.ref b_7), .val (.ref b_33), .unset] [(.int (1 : Int32)), (.int lc)])) t ∧ _
  refine own_go (fun _ => XS.iadd X33.here hx rfl (hb hby at_121) rfl) ?_
  refine own_go (fun _ => XS.iload X33.here hx rfl (hb hby at_122) rfl) ?_
  refine own_go (fun _ => XS.iadd X33.here hx rfl (hb hby at_124) rfl) ?_
  show ∃ t o, Steps p.tables e below (T33.setTop (mkF m 125 #[.val (.int x1), .val (.int x2), .val (.int x3), .val (.int lc), .val (.int nl), .val (.int y0), .val (.int y1), .val (.int y2), .val (.int z0), .val (.int z1), .val (.int z2), .val (.ref b_3), .val (.ref b_7), .val (.ref b_33), .unset] [(.int ((lc + (1 : Int32)) + nl))])) t ∧ _
  refine own_go (fun _ => XS.istore X33.here hx rfl (hb hby at_125) rfl (l' := #[.val (.int x1), .val (.int x2), .val (.int x3), .val (.int lc), .val (.int nl), .val (.int y0), .val (.int y1), .val (.int y2), .val (.int z0), .val (.int z1), .val (.int z2), .val (.ref b_3), .val (.ref b_7), .val (.ref b_33), .val (.int ((lc + (1 : Int32)) + nl))]) rfl) ?_
  refine own_go (fun _ => XS.aload X33.here hx rfl (hb hby at_127) rfl rfl) ?_
  show ∃ t o, Steps p.tables e below (T33.setTop (mkF m 129 #[.val (.int x1), .val (.int x2), .val (.int x3), .val (.int lc), .val (.int nl), .val (.int y0), .val (.int y1), .val (.int y2), .val (.int z0), .val (.int z1), .val (.int z2), .val (.ref b_3), .val (.ref b_7), .val (.ref b_33), .val (.int ((lc + (1 : Int32)) + nl))] [(.ref b_33)])) t ∧ _
  have F35 : Old Z n0 T33.heap := (Old.keep F31 Kp33 all0)
  have zl36 : n0 ≤ T33.heap.size := by omega
  obtain ⟨cq37, kq37, q37a, q37b, q37c⟩ := isOf hZ rfl G33_0
  obtain ⟨_, _, ⟨T37, L37, k37, n37⟩, -, X37, ⟨Lc37, hQ37, l37, y37, z37⟩, st37⟩ := X33.virtualBack hx (y := (⟨"java/lang/String", "length", "()I"⟩ : MethodName)) (z := (⟨"java/lang/String", "length", "()I"⟩ : MethodName)) hown (mvT hZ (hw _ (List.mem_of_getElem? (i := 161) rfl))) (mvT hZ (hw _ (List.mem_of_getElem? (i := 78) rfl))) (notFace_of_selects (args := #[]) (mvT hZ (hw _ (List.mem_of_getElem? (i := 80) rfl)))) (mvT hZ (hw _ (List.mem_of_getElem? (i := 80) rfl))) (mvT hZ (hw _ (List.mem_of_getElem? (i := 79) rfl))) (by decide) (backOf (W := 0) (rmLenG l Z a0 hw [] b_33 tb_33 kb_33 (((((0 : Int32) + nn_3) + (1 : Int32)) + nn_7)) (((([] ++ vs_3) ++ [(Value.int (47 : Int32))]) ++ vs_7)) zc T33.heap n0 zl36 G33_0 G33_1 G33_2 G33_3 F35 P1 hzc) hZ (hw _ (List.mem_of_getElem? (i := 81) rfl)) (hw _ (List.mem_of_getElem? (i := 6) rfl)) (by decide) (by decide)) q37a q37c (g := (mkF m 129 #[.val (.int x1), .val (.int x2), .val (.int x3), .val (.int lc), .val (.int nl), .val (.int y0), .val (.int y1), .val (.int y2), .val (.int z0), .val (.int z1), .val (.int z2), .val (.ref b_3), .val (.ref b_7), .val (.ref b_33), .val (.int ((lc + (1 : Int32)) + nl))] [(.ref b_33)])) rfl (by rw [hml]; rfl) (Steps.refl _) (argsL := []) (rest := []) (lenOf pd__28_29I rfl) rfl (by show 2 * 0 + _ ≤ _; exact Nat.le_of_eq rfl) (hb hby at_129) (fun _ _ => ⟨rfl, rfl, (by decide : 23 + 0 ≤ _), (by decide : 137 + 0 ≤ _)⟩)
  dsimp only [Pt.U, Pt.locs, Pt.cells, Pt.slots] at X37 l37 y37 z37 st37 hQ37
  rw [l37, y37, z37] at X37
  obtain ⟨rfl, Nq37, e37⟩ := hQ37
  have N37 := Fr.app N33 Nq37
  refine own_goT st37 ?_
  refine own_go (fun _ => XS.iload X37.here hx rfl (hb hby at_132) rfl) ?_
  show ∃ t o, Steps p.tables e below (T37.setTop (mkF m 134 #[.val (.int x1), .val (.int x2), .val (.int x3), .val (.int lc), .val (.int nl), .val (.int y0), .val (.int y1), .val (.int y2), .val (.int z0), .val (.int z1), .val (.int z2), .val (.ref b_3), .val (.ref b_7), .val (.ref b_33), .val (.int ((lc + (1 : Int32)) + nl))] [(.int ((lc + (1 : Int32)) + nl)), (.int ((((0 : Int32) + nn_3) + (1 : Int32)) + nn_7))])) t ∧ _
  have hd38 : ((((0 : Int32) + nn_3) + (1 : Int32)) + nn_7) = ((lc + (1 : Int32)) + nl) := (by rw [H3_2, H7_2, Int32.zero_add])
  refine own_go (fun _ => XS.icmpYes X37.here hx rfl (pc0 := 134) (pc' := 139) rfl (hb hby at_134) rfl (teq hd38).1 (by decide) (by decide)) ?_
  refine own_go (fun _ => XS.aload X37.here hx rfl (hb hby at_139) rfl rfl) ?_
  refine own_go (fun _ => XS.iconst X37.here hx rfl (hb hby at_141)) ?_
  show ∃ t o, Steps p.tables e below (T37.setTop (mkF m 142 #[.val (.int x1), .val (.int x2), .val (.int x3), .val (.int lc), .val (.int nl), .val (.int y0), .val (.int y1), .val (.int y2), .val (.int z0), .val (.int z1), .val (.int z2), .val (.ref b_3), .val (.ref b_7), .val (.ref b_33), .val (.int ((lc + (1 : Int32)) + nl))] [(.int (0 : Int32)), (.ref b_33)])) t ∧ _
  refine own_go (fun _ => XS.iloadN X37.here hx rfl (hb hby at_142) rfl) ?_
  refine own_go (fun _ => XS.iload X37.here hx rfl (hb hby at_143) rfl) ?_
  refine own_go (fun _ => XS.iload X37.here hx rfl (hb hby at_145) rfl) ?_
  show ∃ t o, Steps p.tables e below (T37.setTop (mkF m 147 #[.val (.int x1), .val (.int x2), .val (.int x3), .val (.int lc), .val (.int nl), .val (.int y0), .val (.int y1), .val (.int y2), .val (.int z0), .val (.int z1), .val (.int z2), .val (.ref b_3), .val (.ref b_7), .val (.ref b_33), .val (.int ((lc + (1 : Int32)) + nl))] [(.int y0), (.int ((lc + (1 : Int32)) + nl)), (.int lc), (.int (0 : Int32)), (.ref b_33)])) t ∧ _
  refine own_go (fun _ => XS.iload X37.here hx rfl (hb hby at_147) rfl) ?_
  refine own_go (fun _ => XS.iload X37.here hx rfl (hb hby at_149) rfl) ?_
  refine own_go (fun _ => XS.iload X37.here hx rfl (hb hby at_151) rfl) ?_
  show ∃ t o, Steps p.tables e below (T37.setTop (mkF m 153 #[.val (.int x1), .val (.int x2), .val (.int x3), .val (.int lc), .val (.int nl), .val (.int y0), .val (.int y1), .val (.int y2), .val (.int z0), .val (.int z1), .val (.int z2), .val (.ref b_3), .val (.ref b_7), .val (.ref b_33), .val (.int ((lc + (1 : Int32)) + nl))] [(.int z0), (.int y2), (.int y1), (.int y0), (.int ((lc + (1 : Int32)) + nl)), (.int lc), (.int (0 : Int32)), (.ref b_33)])) t ∧ _
  refine own_go (fun _ => XS.iload X37.here hx rfl (hb hby at_153) rfl) ?_
  refine own_go (fun _ => XS.iload X37.here hx rfl (hb hby at_155) rfl) ?_
  show ∃ t o, Steps p.tables e below (T37.setTop (mkF m 157 #[.val (.int x1), .val (.int x2), .val (.int x3), .val (.int lc), .val (.int nl), .val (.int y0), .val (.int y1), .val (.int y2), .val (.int z0), .val (.int z1), .val (.int z2), .val (.ref b_3), .val (.ref b_7), .val (.ref b_33), .val (.int ((lc + (1 : Int32)) + nl))] [(.int z2), (.int z1), (.int z0), (.int y2), (.int y1), (.int y0), (.int ((lc + (1 : Int32)) + nl)), (.int lc), (.int (0 : Int32)), (.ref b_33)])) t ∧ _
  obtain ⟨_, _, ⟨T39, L39, k39, n39⟩, -, X39, ⟨Lc39, hQ39, l39, y39, z39⟩, st39⟩ := Jvm.LawKit.callS X37 hx (y := (⟨"com/example/ipomoea/ipomoea/store/JobKeyToStringPinLaw", "at", "(Ljava/lang/String;IIICCCCCC)Z"⟩ : MethodName)) hown (mvT hZ (hw _ (List.mem_of_getElem? (i := 162) rfl))) (mvT hZ (hw _ (List.mem_of_getElem? (i := 163) rfl))) (mvT hZ (hw _ (List.mem_of_getElem? (i := 2) rfl))) (mvT hZ (hw _ (List.mem_of_getElem? (i := 164) rfl))) (by decide) (backOf (W := 0) (rmAt l Z a0 hw [] b_33 tb_33 kb_33 (((((0 : Int32) + nn_3) + (1 : Int32)) + nn_7)) (((([] ++ vs_3) ++ [(Value.int (47 : Int32))]) ++ vs_7)) (0 : Int32) lc (((lc + (1 : Int32)) + nl)) y0 y1 y2 z0 z1 z2 zc gv T33.heap n0 zl36 G33_0 G33_1 G33_2 G33_3 F35 P1 P2 hzc hgv (r_y0 : own_rg y0) (r_y1 : own_rg y1) (r_y2 : own_rg y2) (r_z0 : own_rg z0) (r_z1 : own_rg z1) (r_z2 : own_rg z2) (own_law r_lc r_nl r_y0 r_y1 r_y2 r_z0 r_z1 r_z2 H3_1 H7_1 H3_2 H7_2 (Or.inl rfl) : (0 : Int32) < ((lc + (1 : Int32)) + nl) → ¬ ((0 : Int32) < (0 : Int32)) ∧ (0 : Int32) < ((((0 : Int32) + nn_3) + (1 : Int32)) + nn_7) ∧ ((([] ++ vs_3) ++ [(Value.int (47 : Int32))]) ++ vs_7).getD (0 : Int32).toNatClampNeg (.int (0 : Int32)) = (.int ((own_exp (0 : Int32) lc y0 y1 y2 z0 z1 z2).toInt8.toInt32)) ∧ own_rg (own_exp (0 : Int32) lc y0 y1 y2 z0 z1 z2))) hZ (hw _ (List.mem_of_getElem? (i := 164) rfl)) (hw _ (List.mem_of_getElem? (i := 2) rfl)) (by decide) (by decide)) (g := (mkF m 157 #[.val (.int x1), .val (.int x2), .val (.int x3), .val (.int lc), .val (.int nl), .val (.int y0), .val (.int y1), .val (.int y2), .val (.int z0), .val (.int z1), .val (.int z2), .val (.ref b_3), .val (.ref b_7), .val (.ref b_33), .val (.int ((lc + (1 : Int32)) + nl))] [(.int z2), (.int z1), (.int z0), (.int y2), (.int y1), (.int y0), (.int ((lc + (1 : Int32)) + nl)), (.int lc), (.int (0 : Int32)), (.ref b_33)])) rfl (by rw [hml]; rfl) (argsL := [(.ref b_33), (.int (0 : Int32)), (.int lc), (.int ((lc + (1 : Int32)) + nl)), (.int y0), (.int y1), (.int y2), (.int z0), (.int z1), (.int z2)]) (rest := []) (lenOf pd__28Ljava_2flang_2fString_3bIIICCCCCC_29Z rfl) rfl (by show 2 * 0 + _ ≤ _; exact Nat.le_of_eq rfl) (hb hby at_157) (fun _ _ => ⟨rfl, e37, (by decide : 23 + 0 ≤ _), (by decide : 137 + 0 ≤ _)⟩)
  dsimp only [Pt.U, Pt.locs, Pt.cells, Pt.slots] at X39 l39 y39 z39 st39 hQ39
  rw [l39, y39, z39] at X39
  obtain ⟨rfl, Nq39, e39⟩ := hQ39
  have N39 := Fr.app N37 Nq39
  refine own_go st39 ?_
  show ∃ t o, Steps p.tables e below (T39.setTop (mkF m 160 #[.val (.int x1), .val (.int x2), .val (.int x3), .val (.int lc), .val (.int nl), .val (.int y0), .val (.int y1), .val (.int y2), .val (.int z0), .val (.int z1), .val (.int z2), .val (.ref b_3), .val (.ref b_7), .val (.ref b_33), .val (.int ((lc + (1 : Int32)) + nl))] [(.int (1 : Int32))])) t ∧ _
  refine own_go (fun _ => XS.ifNo X39.here hx rfl (hb hby at_160) rfl ((if0 _ _).trans (feq (by decide : ¬ ((1 : Int32) = (0 : Int32)))).1)) ?_
  refine own_go (fun _ => XS.aload X39.here hx rfl (hb hby at_163) rfl rfl) ?_
  refine own_go (fun _ => XS.iconst X39.here hx rfl (hb hby at_165)) ?_
  show ∃ t o, Steps p.tables e below (T39.setTop (mkF m 166 #[.val (.int x1), .val (.int x2), .val (.int x3), .val (.int lc), .val (.int nl), .val (.int y0), .val (.int y1), .val (.int y2), .val (.int z0), .val (.int z1), .val (.int z2), .val (.ref b_3), .val (.ref b_7), .val (.ref b_33), .val (.int ((lc + (1 : Int32)) + nl))] [(.int (1 : Int32)), (.ref b_33)])) t ∧ _
  refine own_go (fun _ => XS.iloadN X39.here hx rfl (hb hby at_166) rfl) ?_
  refine own_go (fun _ => XS.iload X39.here hx rfl (hb hby at_167) rfl) ?_
  refine own_go (fun _ => XS.iload X39.here hx rfl (hb hby at_169) rfl) ?_
  show ∃ t o, Steps p.tables e below (T39.setTop (mkF m 171 #[.val (.int x1), .val (.int x2), .val (.int x3), .val (.int lc), .val (.int nl), .val (.int y0), .val (.int y1), .val (.int y2), .val (.int z0), .val (.int z1), .val (.int z2), .val (.ref b_3), .val (.ref b_7), .val (.ref b_33), .val (.int ((lc + (1 : Int32)) + nl))] [(.int y0), (.int ((lc + (1 : Int32)) + nl)), (.int lc), (.int (1 : Int32)), (.ref b_33)])) t ∧ _
  refine own_go (fun _ => XS.iload X39.here hx rfl (hb hby at_171) rfl) ?_
  refine own_go (fun _ => XS.iload X39.here hx rfl (hb hby at_173) rfl) ?_
  refine own_go (fun _ => XS.iload X39.here hx rfl (hb hby at_175) rfl) ?_
  show ∃ t o, Steps p.tables e below (T39.setTop (mkF m 177 #[.val (.int x1), .val (.int x2), .val (.int x3), .val (.int lc), .val (.int nl), .val (.int y0), .val (.int y1), .val (.int y2), .val (.int z0), .val (.int z1), .val (.int z2), .val (.ref b_3), .val (.ref b_7), .val (.ref b_33), .val (.int ((lc + (1 : Int32)) + nl))] [(.int z0), (.int y2), (.int y1), (.int y0), (.int ((lc + (1 : Int32)) + nl)), (.int lc), (.int (1 : Int32)), (.ref b_33)])) t ∧ _
  refine own_go (fun _ => XS.iload X39.here hx rfl (hb hby at_177) rfl) ?_
  refine own_go (fun _ => XS.iload X39.here hx rfl (hb hby at_179) rfl) ?_
  show ∃ t o, Steps p.tables e below (T39.setTop (mkF m 181 #[.val (.int x1), .val (.int x2), .val (.int x3), .val (.int lc), .val (.int nl), .val (.int y0), .val (.int y1), .val (.int y2), .val (.int z0), .val (.int z1), .val (.int z2), .val (.ref b_3), .val (.ref b_7), .val (.ref b_33), .val (.int ((lc + (1 : Int32)) + nl))] [(.int z2), (.int z1), (.int z0), (.int y2), (.int y1), (.int y0), (.int ((lc + (1 : Int32)) + nl)), (.int lc), (.int (1 : Int32)), (.ref b_33)])) t ∧ _
  obtain ⟨_, _, ⟨T40, L40, k40, n40⟩, -, X40, ⟨Lc40, hQ40, l40, y40, z40⟩, st40⟩ := Jvm.LawKit.callS X39 hx (y := (⟨"com/example/ipomoea/ipomoea/store/JobKeyToStringPinLaw", "at", "(Ljava/lang/String;IIICCCCCC)Z"⟩ : MethodName)) hown (mvT hZ (hw _ (List.mem_of_getElem? (i := 162) rfl))) (mvT hZ (hw _ (List.mem_of_getElem? (i := 163) rfl))) (mvT hZ (hw _ (List.mem_of_getElem? (i := 2) rfl))) (mvT hZ (hw _ (List.mem_of_getElem? (i := 164) rfl))) (by decide) (backOf (W := 0) (rmAt l Z a0 hw [] b_33 tb_33 kb_33 (((((0 : Int32) + nn_3) + (1 : Int32)) + nn_7)) (((([] ++ vs_3) ++ [(Value.int (47 : Int32))]) ++ vs_7)) (1 : Int32) lc (((lc + (1 : Int32)) + nl)) y0 y1 y2 z0 z1 z2 zc gv T33.heap n0 zl36 G33_0 G33_1 G33_2 G33_3 F35 P1 P2 hzc hgv (r_y0 : own_rg y0) (r_y1 : own_rg y1) (r_y2 : own_rg y2) (r_z0 : own_rg z0) (r_z1 : own_rg z1) (r_z2 : own_rg z2) (own_law r_lc r_nl r_y0 r_y1 r_y2 r_z0 r_z1 r_z2 H3_1 H7_1 H3_2 H7_2 (Or.inr (Or.inl rfl)) : (1 : Int32) < ((lc + (1 : Int32)) + nl) → ¬ ((1 : Int32) < (0 : Int32)) ∧ (1 : Int32) < ((((0 : Int32) + nn_3) + (1 : Int32)) + nn_7) ∧ ((([] ++ vs_3) ++ [(Value.int (47 : Int32))]) ++ vs_7).getD (1 : Int32).toNatClampNeg (.int (0 : Int32)) = (.int ((own_exp (1 : Int32) lc y0 y1 y2 z0 z1 z2).toInt8.toInt32)) ∧ own_rg (own_exp (1 : Int32) lc y0 y1 y2 z0 z1 z2))) hZ (hw _ (List.mem_of_getElem? (i := 164) rfl)) (hw _ (List.mem_of_getElem? (i := 2) rfl)) (by decide) (by decide)) (g := (mkF m 181 #[.val (.int x1), .val (.int x2), .val (.int x3), .val (.int lc), .val (.int nl), .val (.int y0), .val (.int y1), .val (.int y2), .val (.int z0), .val (.int z1), .val (.int z2), .val (.ref b_3), .val (.ref b_7), .val (.ref b_33), .val (.int ((lc + (1 : Int32)) + nl))] [(.int z2), (.int z1), (.int z0), (.int y2), (.int y1), (.int y0), (.int ((lc + (1 : Int32)) + nl)), (.int lc), (.int (1 : Int32)), (.ref b_33)])) rfl (by rw [hml]; rfl) (argsL := [(.ref b_33), (.int (1 : Int32)), (.int lc), (.int ((lc + (1 : Int32)) + nl)), (.int y0), (.int y1), (.int y2), (.int z0), (.int z1), (.int z2)]) (rest := []) (lenOf pd__28Ljava_2flang_2fString_3bIIICCCCCC_29Z rfl) rfl (by show 2 * 0 + _ ≤ _; exact Nat.le_of_eq rfl) (hb hby at_181) (fun _ _ => ⟨rfl, e39, (by decide : 23 + 0 ≤ _), (by decide : 137 + 0 ≤ _)⟩)
  dsimp only [Pt.U, Pt.locs, Pt.cells, Pt.slots] at X40 l40 y40 z40 st40 hQ40
  rw [l40, y40, z40] at X40
  obtain ⟨rfl, Nq40, e40⟩ := hQ40
  have N40 := Fr.app N39 Nq40
  refine own_go st40 ?_
  show ∃ t o, Steps p.tables e below (T40.setTop (mkF m 184 #[.val (.int x1), .val (.int x2), .val (.int x3), .val (.int lc), .val (.int nl), .val (.int y0), .val (.int y1), .val (.int y2), .val (.int z0), .val (.int z1), .val (.int z2), .val (.ref b_3), .val (.ref b_7), .val (.ref b_33), .val (.int ((lc + (1 : Int32)) + nl))] [(.int (1 : Int32))])) t ∧ _
  refine own_go (fun _ => XS.ifNo X40.here hx rfl (hb hby at_184) rfl ((if0 _ _).trans (feq (by decide : ¬ ((1 : Int32) = (0 : Int32)))).1)) ?_
  refine own_go (fun _ => XS.aload X40.here hx rfl (hb hby at_187) rfl rfl) ?_
  refine own_go (fun _ => XS.iconst X40.here hx rfl (hb hby at_189)) ?_
  show ∃ t o, Steps p.tables e below (T40.setTop (mkF m 190 #[.val (.int x1), .val (.int x2), .val (.int x3), .val (.int lc), .val (.int nl), .val (.int y0), .val (.int y1), .val (.int y2), .val (.int z0), .val (.int z1), .val (.int z2), .val (.ref b_3), .val (.ref b_7), .val (.ref b_33), .val (.int ((lc + (1 : Int32)) + nl))] [(.int (2 : Int32)), (.ref b_33)])) t ∧ _
  refine own_go (fun _ => XS.iloadN X40.here hx rfl (hb hby at_190) rfl) ?_
  refine own_go (fun _ => XS.iload X40.here hx rfl (hb hby at_191) rfl) ?_
  refine own_go (fun _ => XS.iload X40.here hx rfl (hb hby at_193) rfl) ?_
  show ∃ t o, Steps p.tables e below (T40.setTop (mkF m 195 #[.val (.int x1), .val (.int x2), .val (.int x3), .val (.int lc), .val (.int nl), .val (.int y0), .val (.int y1), .val (.int y2), .val (.int z0), .val (.int z1), .val (.int z2), .val (.ref b_3), .val (.ref b_7), .val (.ref b_33), .val (.int ((lc + (1 : Int32)) + nl))] [(.int y0), (.int ((lc + (1 : Int32)) + nl)), (.int lc), (.int (2 : Int32)), (.ref b_33)])) t ∧ _
  refine own_go (fun _ => XS.iload X40.here hx rfl (hb hby at_195) rfl) ?_
  refine own_go (fun _ => XS.iload X40.here hx rfl (hb hby at_197) rfl) ?_
  refine own_go (fun _ => XS.iload X40.here hx rfl (hb hby at_199) rfl) ?_
  show ∃ t o, Steps p.tables e below (T40.setTop (mkF m 201 #[.val (.int x1), .val (.int x2), .val (.int x3), .val (.int lc), .val (.int nl), .val (.int y0), .val (.int y1), .val (.int y2), .val (.int z0), .val (.int z1), .val (.int z2), .val (.ref b_3), .val (.ref b_7), .val (.ref b_33), .val (.int ((lc + (1 : Int32)) + nl))] [(.int z0), (.int y2), (.int y1), (.int y0), (.int ((lc + (1 : Int32)) + nl)), (.int lc), (.int (2 : Int32)), (.ref b_33)])) t ∧ _
  refine own_go (fun _ => XS.iload X40.here hx rfl (hb hby at_201) rfl) ?_
  refine own_go (fun _ => XS.iload X40.here hx rfl (hb hby at_203) rfl) ?_
  show ∃ t o, Steps p.tables e below (T40.setTop (mkF m 205 #[.val (.int x1), .val (.int x2), .val (.int x3), .val (.int lc), .val (.int nl), .val (.int y0), .val (.int y1), .val (.int y2), .val (.int z0), .val (.int z1), .val (.int z2), .val (.ref b_3), .val (.ref b_7), .val (.ref b_33), .val (.int ((lc + (1 : Int32)) + nl))] [(.int z2), (.int z1), (.int z0), (.int y2), (.int y1), (.int y0), (.int ((lc + (1 : Int32)) + nl)), (.int lc), (.int (2 : Int32)), (.ref b_33)])) t ∧ _
  obtain ⟨_, _, ⟨T41, L41, k41, n41⟩, -, X41, ⟨Lc41, hQ41, l41, y41, z41⟩, st41⟩ := Jvm.LawKit.callS X40 hx (y := (⟨"com/example/ipomoea/ipomoea/store/JobKeyToStringPinLaw", "at", "(Ljava/lang/String;IIICCCCCC)Z"⟩ : MethodName)) hown (mvT hZ (hw _ (List.mem_of_getElem? (i := 162) rfl))) (mvT hZ (hw _ (List.mem_of_getElem? (i := 163) rfl))) (mvT hZ (hw _ (List.mem_of_getElem? (i := 2) rfl))) (mvT hZ (hw _ (List.mem_of_getElem? (i := 164) rfl))) (by decide) (backOf (W := 0) (rmAt l Z a0 hw [] b_33 tb_33 kb_33 (((((0 : Int32) + nn_3) + (1 : Int32)) + nn_7)) (((([] ++ vs_3) ++ [(Value.int (47 : Int32))]) ++ vs_7)) (2 : Int32) lc (((lc + (1 : Int32)) + nl)) y0 y1 y2 z0 z1 z2 zc gv T33.heap n0 zl36 G33_0 G33_1 G33_2 G33_3 F35 P1 P2 hzc hgv (r_y0 : own_rg y0) (r_y1 : own_rg y1) (r_y2 : own_rg y2) (r_z0 : own_rg z0) (r_z1 : own_rg z1) (r_z2 : own_rg z2) (own_law r_lc r_nl r_y0 r_y1 r_y2 r_z0 r_z1 r_z2 H3_1 H7_1 H3_2 H7_2 (Or.inr (Or.inr (Or.inl rfl))) : (2 : Int32) < ((lc + (1 : Int32)) + nl) → ¬ ((2 : Int32) < (0 : Int32)) ∧ (2 : Int32) < ((((0 : Int32) + nn_3) + (1 : Int32)) + nn_7) ∧ ((([] ++ vs_3) ++ [(Value.int (47 : Int32))]) ++ vs_7).getD (2 : Int32).toNatClampNeg (.int (0 : Int32)) = (.int ((own_exp (2 : Int32) lc y0 y1 y2 z0 z1 z2).toInt8.toInt32)) ∧ own_rg (own_exp (2 : Int32) lc y0 y1 y2 z0 z1 z2))) hZ (hw _ (List.mem_of_getElem? (i := 164) rfl)) (hw _ (List.mem_of_getElem? (i := 2) rfl)) (by decide) (by decide)) (g := (mkF m 205 #[.val (.int x1), .val (.int x2), .val (.int x3), .val (.int lc), .val (.int nl), .val (.int y0), .val (.int y1), .val (.int y2), .val (.int z0), .val (.int z1), .val (.int z2), .val (.ref b_3), .val (.ref b_7), .val (.ref b_33), .val (.int ((lc + (1 : Int32)) + nl))] [(.int z2), (.int z1), (.int z0), (.int y2), (.int y1), (.int y0), (.int ((lc + (1 : Int32)) + nl)), (.int lc), (.int (2 : Int32)), (.ref b_33)])) rfl (by rw [hml]; rfl) (argsL := [(.ref b_33), (.int (2 : Int32)), (.int lc), (.int ((lc + (1 : Int32)) + nl)), (.int y0), (.int y1), (.int y2), (.int z0), (.int z1), (.int z2)]) (rest := []) (lenOf pd__28Ljava_2flang_2fString_3bIIICCCCCC_29Z rfl) rfl (by show 2 * 0 + _ ≤ _; exact Nat.le_of_eq rfl) (hb hby at_205) (fun _ _ => ⟨rfl, e40, (by decide : 23 + 0 ≤ _), (by decide : 137 + 0 ≤ _)⟩)
  dsimp only [Pt.U, Pt.locs, Pt.cells, Pt.slots] at X41 l41 y41 z41 st41 hQ41
  rw [l41, y41, z41] at X41
  obtain ⟨rfl, Nq41, e41⟩ := hQ41
  have N41 := Fr.app N40 Nq41
  refine own_go st41 ?_
  show ∃ t o, Steps p.tables e below (T41.setTop (mkF m 208 #[.val (.int x1), .val (.int x2), .val (.int x3), .val (.int lc), .val (.int nl), .val (.int y0), .val (.int y1), .val (.int y2), .val (.int z0), .val (.int z1), .val (.int z2), .val (.ref b_3), .val (.ref b_7), .val (.ref b_33), .val (.int ((lc + (1 : Int32)) + nl))] [(.int (1 : Int32))])) t ∧ _
  refine own_go (fun _ => XS.ifNo X41.here hx rfl (hb hby at_208) rfl ((if0 _ _).trans (feq (by decide : ¬ ((1 : Int32) = (0 : Int32)))).1)) ?_
  refine own_go (fun _ => XS.aload X41.here hx rfl (hb hby at_211) rfl rfl) ?_
  refine own_go (fun _ => XS.iconst X41.here hx rfl (hb hby at_213)) ?_
  show ∃ t o, Steps p.tables e below (T41.setTop (mkF m 214 #[.val (.int x1), .val (.int x2), .val (.int x3), .val (.int lc), .val (.int nl), .val (.int y0), .val (.int y1), .val (.int y2), .val (.int z0), .val (.int z1), .val (.int z2), .val (.ref b_3), .val (.ref b_7), .val (.ref b_33), .val (.int ((lc + (1 : Int32)) + nl))] [(.int (3 : Int32)), (.ref b_33)])) t ∧ _
  refine own_go (fun _ => XS.iloadN X41.here hx rfl (hb hby at_214) rfl) ?_
  refine own_go (fun _ => XS.iload X41.here hx rfl (hb hby at_215) rfl) ?_
  refine own_go (fun _ => XS.iload X41.here hx rfl (hb hby at_217) rfl) ?_
  show ∃ t o, Steps p.tables e below (T41.setTop (mkF m 219 #[.val (.int x1), .val (.int x2), .val (.int x3), .val (.int lc), .val (.int nl), .val (.int y0), .val (.int y1), .val (.int y2), .val (.int z0), .val (.int z1), .val (.int z2), .val (.ref b_3), .val (.ref b_7), .val (.ref b_33), .val (.int ((lc + (1 : Int32)) + nl))] [(.int y0), (.int ((lc + (1 : Int32)) + nl)), (.int lc), (.int (3 : Int32)), (.ref b_33)])) t ∧ _
  refine own_go (fun _ => XS.iload X41.here hx rfl (hb hby at_219) rfl) ?_
  refine own_go (fun _ => XS.iload X41.here hx rfl (hb hby at_221) rfl) ?_
  refine own_go (fun _ => XS.iload X41.here hx rfl (hb hby at_223) rfl) ?_
  show ∃ t o, Steps p.tables e below (T41.setTop (mkF m 225 #[.val (.int x1), .val (.int x2), .val (.int x3), .val (.int lc), .val (.int nl), .val (.int y0), .val (.int y1), .val (.int y2), .val (.int z0), .val (.int z1), .val (.int z2), .val (.ref b_3), .val (.ref b_7), .val (.ref b_33), .val (.int ((lc + (1 : Int32)) + nl))] [(.int z0), (.int y2), (.int y1), (.int y0), (.int ((lc + (1 : Int32)) + nl)), (.int lc), (.int (3 : Int32)), (.ref b_33)])) t ∧ _
  refine own_go (fun _ => XS.iload X41.here hx rfl (hb hby at_225) rfl) ?_
  refine own_go (fun _ => XS.iload X41.here hx rfl (hb hby at_227) rfl) ?_
  show ∃ t o, Steps p.tables e below (T41.setTop (mkF m 229 #[.val (.int x1), .val (.int x2), .val (.int x3), .val (.int lc), .val (.int nl), .val (.int y0), .val (.int y1), .val (.int y2), .val (.int z0), .val (.int z1), .val (.int z2), .val (.ref b_3), .val (.ref b_7), .val (.ref b_33), .val (.int ((lc + (1 : Int32)) + nl))] [(.int z2), (.int z1), (.int z0), (.int y2), (.int y1), (.int y0), (.int ((lc + (1 : Int32)) + nl)), (.int lc), (.int (3 : Int32)), (.ref b_33)])) t ∧ _
  obtain ⟨_, _, ⟨T42, L42, k42, n42⟩, -, X42, ⟨Lc42, hQ42, l42, y42, z42⟩, st42⟩ := Jvm.LawKit.callS X41 hx (y := (⟨"com/example/ipomoea/ipomoea/store/JobKeyToStringPinLaw", "at", "(Ljava/lang/String;IIICCCCCC)Z"⟩ : MethodName)) hown (mvT hZ (hw _ (List.mem_of_getElem? (i := 162) rfl))) (mvT hZ (hw _ (List.mem_of_getElem? (i := 163) rfl))) (mvT hZ (hw _ (List.mem_of_getElem? (i := 2) rfl))) (mvT hZ (hw _ (List.mem_of_getElem? (i := 164) rfl))) (by decide) (backOf (W := 0) (rmAt l Z a0 hw [] b_33 tb_33 kb_33 (((((0 : Int32) + nn_3) + (1 : Int32)) + nn_7)) (((([] ++ vs_3) ++ [(Value.int (47 : Int32))]) ++ vs_7)) (3 : Int32) lc (((lc + (1 : Int32)) + nl)) y0 y1 y2 z0 z1 z2 zc gv T33.heap n0 zl36 G33_0 G33_1 G33_2 G33_3 F35 P1 P2 hzc hgv (r_y0 : own_rg y0) (r_y1 : own_rg y1) (r_y2 : own_rg y2) (r_z0 : own_rg z0) (r_z1 : own_rg z1) (r_z2 : own_rg z2) (own_law r_lc r_nl r_y0 r_y1 r_y2 r_z0 r_z1 r_z2 H3_1 H7_1 H3_2 H7_2 (Or.inr (Or.inr (Or.inr (Or.inl rfl)))) : (3 : Int32) < ((lc + (1 : Int32)) + nl) → ¬ ((3 : Int32) < (0 : Int32)) ∧ (3 : Int32) < ((((0 : Int32) + nn_3) + (1 : Int32)) + nn_7) ∧ ((([] ++ vs_3) ++ [(Value.int (47 : Int32))]) ++ vs_7).getD (3 : Int32).toNatClampNeg (.int (0 : Int32)) = (.int ((own_exp (3 : Int32) lc y0 y1 y2 z0 z1 z2).toInt8.toInt32)) ∧ own_rg (own_exp (3 : Int32) lc y0 y1 y2 z0 z1 z2))) hZ (hw _ (List.mem_of_getElem? (i := 164) rfl)) (hw _ (List.mem_of_getElem? (i := 2) rfl)) (by decide) (by decide)) (g := (mkF m 229 #[.val (.int x1), .val (.int x2), .val (.int x3), .val (.int lc), .val (.int nl), .val (.int y0), .val (.int y1), .val (.int y2), .val (.int z0), .val (.int z1), .val (.int z2), .val (.ref b_3), .val (.ref b_7), .val (.ref b_33), .val (.int ((lc + (1 : Int32)) + nl))] [(.int z2), (.int z1), (.int z0), (.int y2), (.int y1), (.int y0), (.int ((lc + (1 : Int32)) + nl)), (.int lc), (.int (3 : Int32)), (.ref b_33)])) rfl (by rw [hml]; rfl) (argsL := [(.ref b_33), (.int (3 : Int32)), (.int lc), (.int ((lc + (1 : Int32)) + nl)), (.int y0), (.int y1), (.int y2), (.int z0), (.int z1), (.int z2)]) (rest := []) (lenOf pd__28Ljava_2flang_2fString_3bIIICCCCCC_29Z rfl) rfl (by show 2 * 0 + _ ≤ _; exact Nat.le_of_eq rfl) (hb hby at_229) (fun _ _ => ⟨rfl, e41, (by decide : 23 + 0 ≤ _), (by decide : 137 + 0 ≤ _)⟩)
  dsimp only [Pt.U, Pt.locs, Pt.cells, Pt.slots] at X42 l42 y42 z42 st42 hQ42
  rw [l42, y42, z42] at X42
  obtain ⟨rfl, Nq42, e42⟩ := hQ42
  have N42 := Fr.app N41 Nq42
  refine own_go st42 ?_
  show ∃ t o, Steps p.tables e below (T42.setTop (mkF m 232 #[.val (.int x1), .val (.int x2), .val (.int x3), .val (.int lc), .val (.int nl), .val (.int y0), .val (.int y1), .val (.int y2), .val (.int z0), .val (.int z1), .val (.int z2), .val (.ref b_3), .val (.ref b_7), .val (.ref b_33), .val (.int ((lc + (1 : Int32)) + nl))] [(.int (1 : Int32))])) t ∧ _
  refine own_go (fun _ => XS.ifNo X42.here hx rfl (hb hby at_232) rfl ((if0 _ _).trans (feq (by decide : ¬ ((1 : Int32) = (0 : Int32)))).1)) ?_
  refine own_go (fun _ => XS.aload X42.here hx rfl (hb hby at_235) rfl rfl) ?_
  refine own_go (fun _ => XS.iconst X42.here hx rfl (hb hby at_237)) ?_
  show ∃ t o, Steps p.tables e below (T42.setTop (mkF m 238 #[.val (.int x1), .val (.int x2), .val (.int x3), .val (.int lc), .val (.int nl), .val (.int y0), .val (.int y1), .val (.int y2), .val (.int z0), .val (.int z1), .val (.int z2), .val (.ref b_3), .val (.ref b_7), .val (.ref b_33), .val (.int ((lc + (1 : Int32)) + nl))] [(.int (4 : Int32)), (.ref b_33)])) t ∧ _
  refine own_go (fun _ => XS.iloadN X42.here hx rfl (hb hby at_238) rfl) ?_
  refine own_go (fun _ => XS.iload X42.here hx rfl (hb hby at_239) rfl) ?_
  refine own_go (fun _ => XS.iload X42.here hx rfl (hb hby at_241) rfl) ?_
  show ∃ t o, Steps p.tables e below (T42.setTop (mkF m 243 #[.val (.int x1), .val (.int x2), .val (.int x3), .val (.int lc), .val (.int nl), .val (.int y0), .val (.int y1), .val (.int y2), .val (.int z0), .val (.int z1), .val (.int z2), .val (.ref b_3), .val (.ref b_7), .val (.ref b_33), .val (.int ((lc + (1 : Int32)) + nl))] [(.int y0), (.int ((lc + (1 : Int32)) + nl)), (.int lc), (.int (4 : Int32)), (.ref b_33)])) t ∧ _
  refine own_go (fun _ => XS.iload X42.here hx rfl (hb hby at_243) rfl) ?_
  refine own_go (fun _ => XS.iload X42.here hx rfl (hb hby at_245) rfl) ?_
  refine own_go (fun _ => XS.iload X42.here hx rfl (hb hby at_247) rfl) ?_
  show ∃ t o, Steps p.tables e below (T42.setTop (mkF m 249 #[.val (.int x1), .val (.int x2), .val (.int x3), .val (.int lc), .val (.int nl), .val (.int y0), .val (.int y1), .val (.int y2), .val (.int z0), .val (.int z1), .val (.int z2), .val (.ref b_3), .val (.ref b_7), .val (.ref b_33), .val (.int ((lc + (1 : Int32)) + nl))] [(.int z0), (.int y2), (.int y1), (.int y0), (.int ((lc + (1 : Int32)) + nl)), (.int lc), (.int (4 : Int32)), (.ref b_33)])) t ∧ _
  refine own_go (fun _ => XS.iload X42.here hx rfl (hb hby at_249) rfl) ?_
  refine own_go (fun _ => XS.iload X42.here hx rfl (hb hby at_251) rfl) ?_
  show ∃ t o, Steps p.tables e below (T42.setTop (mkF m 253 #[.val (.int x1), .val (.int x2), .val (.int x3), .val (.int lc), .val (.int nl), .val (.int y0), .val (.int y1), .val (.int y2), .val (.int z0), .val (.int z1), .val (.int z2), .val (.ref b_3), .val (.ref b_7), .val (.ref b_33), .val (.int ((lc + (1 : Int32)) + nl))] [(.int z2), (.int z1), (.int z0), (.int y2), (.int y1), (.int y0), (.int ((lc + (1 : Int32)) + nl)), (.int lc), (.int (4 : Int32)), (.ref b_33)])) t ∧ _
  obtain ⟨_, _, ⟨T43, L43, k43, n43⟩, -, X43, ⟨Lc43, hQ43, l43, y43, z43⟩, st43⟩ := Jvm.LawKit.callS X42 hx (y := (⟨"com/example/ipomoea/ipomoea/store/JobKeyToStringPinLaw", "at", "(Ljava/lang/String;IIICCCCCC)Z"⟩ : MethodName)) hown (mvT hZ (hw _ (List.mem_of_getElem? (i := 162) rfl))) (mvT hZ (hw _ (List.mem_of_getElem? (i := 163) rfl))) (mvT hZ (hw _ (List.mem_of_getElem? (i := 2) rfl))) (mvT hZ (hw _ (List.mem_of_getElem? (i := 164) rfl))) (by decide) (backOf (W := 0) (rmAt l Z a0 hw [] b_33 tb_33 kb_33 (((((0 : Int32) + nn_3) + (1 : Int32)) + nn_7)) (((([] ++ vs_3) ++ [(Value.int (47 : Int32))]) ++ vs_7)) (4 : Int32) lc (((lc + (1 : Int32)) + nl)) y0 y1 y2 z0 z1 z2 zc gv T33.heap n0 zl36 G33_0 G33_1 G33_2 G33_3 F35 P1 P2 hzc hgv (r_y0 : own_rg y0) (r_y1 : own_rg y1) (r_y2 : own_rg y2) (r_z0 : own_rg z0) (r_z1 : own_rg z1) (r_z2 : own_rg z2) (own_law r_lc r_nl r_y0 r_y1 r_y2 r_z0 r_z1 r_z2 H3_1 H7_1 H3_2 H7_2 (Or.inr (Or.inr (Or.inr (Or.inr (Or.inl rfl))))) : (4 : Int32) < ((lc + (1 : Int32)) + nl) → ¬ ((4 : Int32) < (0 : Int32)) ∧ (4 : Int32) < ((((0 : Int32) + nn_3) + (1 : Int32)) + nn_7) ∧ ((([] ++ vs_3) ++ [(Value.int (47 : Int32))]) ++ vs_7).getD (4 : Int32).toNatClampNeg (.int (0 : Int32)) = (.int ((own_exp (4 : Int32) lc y0 y1 y2 z0 z1 z2).toInt8.toInt32)) ∧ own_rg (own_exp (4 : Int32) lc y0 y1 y2 z0 z1 z2))) hZ (hw _ (List.mem_of_getElem? (i := 164) rfl)) (hw _ (List.mem_of_getElem? (i := 2) rfl)) (by decide) (by decide)) (g := (mkF m 253 #[.val (.int x1), .val (.int x2), .val (.int x3), .val (.int lc), .val (.int nl), .val (.int y0), .val (.int y1), .val (.int y2), .val (.int z0), .val (.int z1), .val (.int z2), .val (.ref b_3), .val (.ref b_7), .val (.ref b_33), .val (.int ((lc + (1 : Int32)) + nl))] [(.int z2), (.int z1), (.int z0), (.int y2), (.int y1), (.int y0), (.int ((lc + (1 : Int32)) + nl)), (.int lc), (.int (4 : Int32)), (.ref b_33)])) rfl (by rw [hml]; rfl) (argsL := [(.ref b_33), (.int (4 : Int32)), (.int lc), (.int ((lc + (1 : Int32)) + nl)), (.int y0), (.int y1), (.int y2), (.int z0), (.int z1), (.int z2)]) (rest := []) (lenOf pd__28Ljava_2flang_2fString_3bIIICCCCCC_29Z rfl) rfl (by show 2 * 0 + _ ≤ _; exact Nat.le_of_eq rfl) (hb hby at_253) (fun _ _ => ⟨rfl, e42, (by decide : 23 + 0 ≤ _), (by decide : 137 + 0 ≤ _)⟩)
  dsimp only [Pt.U, Pt.locs, Pt.cells, Pt.slots] at X43 l43 y43 z43 st43 hQ43
  rw [l43, y43, z43] at X43
  obtain ⟨rfl, Nq43, e43⟩ := hQ43
  have N43 := Fr.app N42 Nq43
  refine own_go st43 ?_
  show ∃ t o, Steps p.tables e below (T43.setTop (mkF m 256 #[.val (.int x1), .val (.int x2), .val (.int x3), .val (.int lc), .val (.int nl), .val (.int y0), .val (.int y1), .val (.int y2), .val (.int z0), .val (.int z1), .val (.int z2), .val (.ref b_3), .val (.ref b_7), .val (.ref b_33), .val (.int ((lc + (1 : Int32)) + nl))] [(.int (1 : Int32))])) t ∧ _
  refine own_go (fun _ => XS.ifNo X43.here hx rfl (hb hby at_256) rfl ((if0 _ _).trans (feq (by decide : ¬ ((1 : Int32) = (0 : Int32)))).1)) ?_
  refine own_go (fun _ => XS.aload X43.here hx rfl (hb hby at_259) rfl rfl) ?_
  refine own_go (fun _ => XS.iconst X43.here hx rfl (hb hby at_261)) ?_
  show ∃ t o, Steps p.tables e below (T43.setTop (mkF m 262 #[.val (.int x1), .val (.int x2), .val (.int x3), .val (.int lc), .val (.int nl), .val (.int y0), .val (.int y1), .val (.int y2), .val (.int z0), .val (.int z1), .val (.int z2), .val (.ref b_3), .val (.ref b_7), .val (.ref b_33), .val (.int ((lc + (1 : Int32)) + nl))] [(.int (5 : Int32)), (.ref b_33)])) t ∧ _
  refine own_go (fun _ => XS.iloadN X43.here hx rfl (hb hby at_262) rfl) ?_
  refine own_go (fun _ => XS.iload X43.here hx rfl (hb hby at_263) rfl) ?_
  refine own_go (fun _ => XS.iload X43.here hx rfl (hb hby at_265) rfl) ?_
  show ∃ t o, Steps p.tables e below (T43.setTop (mkF m 267 #[.val (.int x1), .val (.int x2), .val (.int x3), .val (.int lc), .val (.int nl), .val (.int y0), .val (.int y1), .val (.int y2), .val (.int z0), .val (.int z1), .val (.int z2), .val (.ref b_3), .val (.ref b_7), .val (.ref b_33), .val (.int ((lc + (1 : Int32)) + nl))] [(.int y0), (.int ((lc + (1 : Int32)) + nl)), (.int lc), (.int (5 : Int32)), (.ref b_33)])) t ∧ _
  refine own_go (fun _ => XS.iload X43.here hx rfl (hb hby at_267) rfl) ?_
  refine own_go (fun _ => XS.iload X43.here hx rfl (hb hby at_269) rfl) ?_
  refine own_go (fun _ => XS.iload X43.here hx rfl (hb hby at_271) rfl) ?_
  show ∃ t o, Steps p.tables e below (T43.setTop (mkF m 273 #[.val (.int x1), .val (.int x2), .val (.int x3), .val (.int lc), .val (.int nl), .val (.int y0), .val (.int y1), .val (.int y2), .val (.int z0), .val (.int z1), .val (.int z2), .val (.ref b_3), .val (.ref b_7), .val (.ref b_33), .val (.int ((lc + (1 : Int32)) + nl))] [(.int z0), (.int y2), (.int y1), (.int y0), (.int ((lc + (1 : Int32)) + nl)), (.int lc), (.int (5 : Int32)), (.ref b_33)])) t ∧ _
  refine own_go (fun _ => XS.iload X43.here hx rfl (hb hby at_273) rfl) ?_
  refine own_go (fun _ => XS.iload X43.here hx rfl (hb hby at_275) rfl) ?_
  show ∃ t o, Steps p.tables e below (T43.setTop (mkF m 277 #[.val (.int x1), .val (.int x2), .val (.int x3), .val (.int lc), .val (.int nl), .val (.int y0), .val (.int y1), .val (.int y2), .val (.int z0), .val (.int z1), .val (.int z2), .val (.ref b_3), .val (.ref b_7), .val (.ref b_33), .val (.int ((lc + (1 : Int32)) + nl))] [(.int z2), (.int z1), (.int z0), (.int y2), (.int y1), (.int y0), (.int ((lc + (1 : Int32)) + nl)), (.int lc), (.int (5 : Int32)), (.ref b_33)])) t ∧ _
  obtain ⟨_, _, ⟨T44, L44, k44, n44⟩, -, X44, ⟨Lc44, hQ44, l44, y44, z44⟩, st44⟩ := Jvm.LawKit.callS X43 hx (y := (⟨"com/example/ipomoea/ipomoea/store/JobKeyToStringPinLaw", "at", "(Ljava/lang/String;IIICCCCCC)Z"⟩ : MethodName)) hown (mvT hZ (hw _ (List.mem_of_getElem? (i := 162) rfl))) (mvT hZ (hw _ (List.mem_of_getElem? (i := 163) rfl))) (mvT hZ (hw _ (List.mem_of_getElem? (i := 2) rfl))) (mvT hZ (hw _ (List.mem_of_getElem? (i := 164) rfl))) (by decide) (backOf (W := 0) (rmAt l Z a0 hw [] b_33 tb_33 kb_33 (((((0 : Int32) + nn_3) + (1 : Int32)) + nn_7)) (((([] ++ vs_3) ++ [(Value.int (47 : Int32))]) ++ vs_7)) (5 : Int32) lc (((lc + (1 : Int32)) + nl)) y0 y1 y2 z0 z1 z2 zc gv T33.heap n0 zl36 G33_0 G33_1 G33_2 G33_3 F35 P1 P2 hzc hgv (r_y0 : own_rg y0) (r_y1 : own_rg y1) (r_y2 : own_rg y2) (r_z0 : own_rg z0) (r_z1 : own_rg z1) (r_z2 : own_rg z2) (own_law r_lc r_nl r_y0 r_y1 r_y2 r_z0 r_z1 r_z2 H3_1 H7_1 H3_2 H7_2 (Or.inr (Or.inr (Or.inr (Or.inr (Or.inr (Or.inl rfl)))))) : (5 : Int32) < ((lc + (1 : Int32)) + nl) → ¬ ((5 : Int32) < (0 : Int32)) ∧ (5 : Int32) < ((((0 : Int32) + nn_3) + (1 : Int32)) + nn_7) ∧ ((([] ++ vs_3) ++ [(Value.int (47 : Int32))]) ++ vs_7).getD (5 : Int32).toNatClampNeg (.int (0 : Int32)) = (.int ((own_exp (5 : Int32) lc y0 y1 y2 z0 z1 z2).toInt8.toInt32)) ∧ own_rg (own_exp (5 : Int32) lc y0 y1 y2 z0 z1 z2))) hZ (hw _ (List.mem_of_getElem? (i := 164) rfl)) (hw _ (List.mem_of_getElem? (i := 2) rfl)) (by decide) (by decide)) (g := (mkF m 277 #[.val (.int x1), .val (.int x2), .val (.int x3), .val (.int lc), .val (.int nl), .val (.int y0), .val (.int y1), .val (.int y2), .val (.int z0), .val (.int z1), .val (.int z2), .val (.ref b_3), .val (.ref b_7), .val (.ref b_33), .val (.int ((lc + (1 : Int32)) + nl))] [(.int z2), (.int z1), (.int z0), (.int y2), (.int y1), (.int y0), (.int ((lc + (1 : Int32)) + nl)), (.int lc), (.int (5 : Int32)), (.ref b_33)])) rfl (by rw [hml]; rfl) (argsL := [(.ref b_33), (.int (5 : Int32)), (.int lc), (.int ((lc + (1 : Int32)) + nl)), (.int y0), (.int y1), (.int y2), (.int z0), (.int z1), (.int z2)]) (rest := []) (lenOf pd__28Ljava_2flang_2fString_3bIIICCCCCC_29Z rfl) rfl (by show 2 * 0 + _ ≤ _; exact Nat.le_of_eq rfl) (hb hby at_277) (fun _ _ => ⟨rfl, e43, (by decide : 23 + 0 ≤ _), (by decide : 137 + 0 ≤ _)⟩)
  dsimp only [Pt.U, Pt.locs, Pt.cells, Pt.slots] at X44 l44 y44 z44 st44 hQ44
  rw [l44, y44, z44] at X44
  obtain ⟨rfl, Nq44, e44⟩ := hQ44
  have N44 := Fr.app N43 Nq44
  refine own_go st44 ?_
  show ∃ t o, Steps p.tables e below (T44.setTop (mkF m 280 #[.val (.int x1), .val (.int x2), .val (.int x3), .val (.int lc), .val (.int nl), .val (.int y0), .val (.int y1), .val (.int y2), .val (.int z0), .val (.int z1), .val (.int z2), .val (.ref b_3), .val (.ref b_7), .val (.ref b_33), .val (.int ((lc + (1 : Int32)) + nl))] [(.int (1 : Int32))])) t ∧ _
  refine own_go (fun _ => XS.ifNo X44.here hx rfl (hb hby at_280) rfl ((if0 _ _).trans (feq (by decide : ¬ ((1 : Int32) = (0 : Int32)))).1)) ?_
  refine own_go (fun _ => XS.aload X44.here hx rfl (hb hby at_283) rfl rfl) ?_
  refine own_go (fun _ => XS.bipush X44.here hx rfl (hb hby at_285)) ?_
  show ∃ t o, Steps p.tables e below (T44.setTop (mkF m 287 #[.val (.int x1), .val (.int x2), .val (.int x3), .val (.int lc), .val (.int nl), .val (.int y0), .val (.int y1), .val (.int y2), .val (.int z0), .val (.int z1), .val (.int z2), .val (.ref b_3), .val (.ref b_7), .val (.ref b_33), .val (.int ((lc + (1 : Int32)) + nl))] [(.int (6 : Int32)), (.ref b_33)])) t ∧ _
  refine own_go (fun _ => XS.iloadN X44.here hx rfl (hb hby at_287) rfl) ?_
  refine own_go (fun _ => XS.iload X44.here hx rfl (hb hby at_288) rfl) ?_
  refine own_go (fun _ => XS.iload X44.here hx rfl (hb hby at_290) rfl) ?_
  show ∃ t o, Steps p.tables e below (T44.setTop (mkF m 292 #[.val (.int x1), .val (.int x2), .val (.int x3), .val (.int lc), .val (.int nl), .val (.int y0), .val (.int y1), .val (.int y2), .val (.int z0), .val (.int z1), .val (.int z2), .val (.ref b_3), .val (.ref b_7), .val (.ref b_33), .val (.int ((lc + (1 : Int32)) + nl))] [(.int y0), (.int ((lc + (1 : Int32)) + nl)), (.int lc), (.int (6 : Int32)), (.ref b_33)])) t ∧ _
  refine own_go (fun _ => XS.iload X44.here hx rfl (hb hby at_292) rfl) ?_
  refine own_go (fun _ => XS.iload X44.here hx rfl (hb hby at_294) rfl) ?_
  refine own_go (fun _ => XS.iload X44.here hx rfl (hb hby at_296) rfl) ?_
  show ∃ t o, Steps p.tables e below (T44.setTop (mkF m 298 #[.val (.int x1), .val (.int x2), .val (.int x3), .val (.int lc), .val (.int nl), .val (.int y0), .val (.int y1), .val (.int y2), .val (.int z0), .val (.int z1), .val (.int z2), .val (.ref b_3), .val (.ref b_7), .val (.ref b_33), .val (.int ((lc + (1 : Int32)) + nl))] [(.int z0), (.int y2), (.int y1), (.int y0), (.int ((lc + (1 : Int32)) + nl)), (.int lc), (.int (6 : Int32)), (.ref b_33)])) t ∧ _
  refine own_go (fun _ => XS.iload X44.here hx rfl (hb hby at_298) rfl) ?_
  refine own_go (fun _ => XS.iload X44.here hx rfl (hb hby at_300) rfl) ?_
  show ∃ t o, Steps p.tables e below (T44.setTop (mkF m 302 #[.val (.int x1), .val (.int x2), .val (.int x3), .val (.int lc), .val (.int nl), .val (.int y0), .val (.int y1), .val (.int y2), .val (.int z0), .val (.int z1), .val (.int z2), .val (.ref b_3), .val (.ref b_7), .val (.ref b_33), .val (.int ((lc + (1 : Int32)) + nl))] [(.int z2), (.int z1), (.int z0), (.int y2), (.int y1), (.int y0), (.int ((lc + (1 : Int32)) + nl)), (.int lc), (.int (6 : Int32)), (.ref b_33)])) t ∧ _
  obtain ⟨_, _, ⟨T45, L45, k45, n45⟩, -, X45, ⟨Lc45, hQ45, l45, y45, z45⟩, st45⟩ := Jvm.LawKit.callS X44 hx (y := (⟨"com/example/ipomoea/ipomoea/store/JobKeyToStringPinLaw", "at", "(Ljava/lang/String;IIICCCCCC)Z"⟩ : MethodName)) hown (mvT hZ (hw _ (List.mem_of_getElem? (i := 162) rfl))) (mvT hZ (hw _ (List.mem_of_getElem? (i := 163) rfl))) (mvT hZ (hw _ (List.mem_of_getElem? (i := 2) rfl))) (mvT hZ (hw _ (List.mem_of_getElem? (i := 164) rfl))) (by decide) (backOf (W := 0) (rmAt l Z a0 hw [] b_33 tb_33 kb_33 (((((0 : Int32) + nn_3) + (1 : Int32)) + nn_7)) (((([] ++ vs_3) ++ [(Value.int (47 : Int32))]) ++ vs_7)) (6 : Int32) lc (((lc + (1 : Int32)) + nl)) y0 y1 y2 z0 z1 z2 zc gv T33.heap n0 zl36 G33_0 G33_1 G33_2 G33_3 F35 P1 P2 hzc hgv (r_y0 : own_rg y0) (r_y1 : own_rg y1) (r_y2 : own_rg y2) (r_z0 : own_rg z0) (r_z1 : own_rg z1) (r_z2 : own_rg z2) (own_law r_lc r_nl r_y0 r_y1 r_y2 r_z0 r_z1 r_z2 H3_1 H7_1 H3_2 H7_2 (Or.inr (Or.inr (Or.inr (Or.inr (Or.inr (Or.inr rfl)))))) : (6 : Int32) < ((lc + (1 : Int32)) + nl) → ¬ ((6 : Int32) < (0 : Int32)) ∧ (6 : Int32) < ((((0 : Int32) + nn_3) + (1 : Int32)) + nn_7) ∧ ((([] ++ vs_3) ++ [(Value.int (47 : Int32))]) ++ vs_7).getD (6 : Int32).toNatClampNeg (.int (0 : Int32)) = (.int ((own_exp (6 : Int32) lc y0 y1 y2 z0 z1 z2).toInt8.toInt32)) ∧ own_rg (own_exp (6 : Int32) lc y0 y1 y2 z0 z1 z2))) hZ (hw _ (List.mem_of_getElem? (i := 164) rfl)) (hw _ (List.mem_of_getElem? (i := 2) rfl)) (by decide) (by decide)) (g := (mkF m 302 #[.val (.int x1), .val (.int x2), .val (.int x3), .val (.int lc), .val (.int nl), .val (.int y0), .val (.int y1), .val (.int y2), .val (.int z0), .val (.int z1), .val (.int z2), .val (.ref b_3), .val (.ref b_7), .val (.ref b_33), .val (.int ((lc + (1 : Int32)) + nl))] [(.int z2), (.int z1), (.int z0), (.int y2), (.int y1), (.int y0), (.int ((lc + (1 : Int32)) + nl)), (.int lc), (.int (6 : Int32)), (.ref b_33)])) rfl (by rw [hml]; rfl) (argsL := [(.ref b_33), (.int (6 : Int32)), (.int lc), (.int ((lc + (1 : Int32)) + nl)), (.int y0), (.int y1), (.int y2), (.int z0), (.int z1), (.int z2)]) (rest := []) (lenOf pd__28Ljava_2flang_2fString_3bIIICCCCCC_29Z rfl) rfl (by show 2 * 0 + _ ≤ _; exact Nat.le_of_eq rfl) (hb hby at_302) (fun _ _ => ⟨rfl, e44, (by decide : 23 + 0 ≤ _), (by decide : 137 + 0 ≤ _)⟩)
  dsimp only [Pt.U, Pt.locs, Pt.cells, Pt.slots] at X45 l45 y45 z45 st45 hQ45
  rw [l45, y45, z45] at X45
  obtain ⟨rfl, Nq45, e45⟩ := hQ45
  have N45 := Fr.app N44 Nq45
  refine own_go st45 ?_
  show ∃ t o, Steps p.tables e below (T45.setTop (mkF m 305 #[.val (.int x1), .val (.int x2), .val (.int x3), .val (.int lc), .val (.int nl), .val (.int y0), .val (.int y1), .val (.int y2), .val (.int z0), .val (.int z1), .val (.int z2), .val (.ref b_3), .val (.ref b_7), .val (.ref b_33), .val (.int ((lc + (1 : Int32)) + nl))] [(.int (1 : Int32))])) t ∧ _
  refine own_go (fun _ => XS.ifNo X45.here hx rfl (hb hby at_305) rfl ((if0 _ _).trans (feq (by decide : ¬ ((1 : Int32) = (0 : Int32)))).1)) ?_
  refine own_go (fun _ => XS.iconst X45.here hx rfl (hb hby at_308)) ?_
  refine own_go (fun _ => XS.goto X45.here hx rfl (pc0 := 309) (pc' := 313) rfl (hb hby at_309) (by decide) (by decide)) ?_
  show ∃ t o, Steps p.tables e below (T45.setTop (mkF m 313 #[.val (.int x1), .val (.int x2), .val (.int x3), .val (.int lc), .val (.int nl), .val (.int y0), .val (.int y1), .val (.int y2), .val (.int z0), .val (.int z1), .val (.int z2), .val (.ref b_3), .val (.ref b_7), .val (.ref b_33), .val (.int ((lc + (1 : Int32)) + nl))] [(.int (1 : Int32))])) t ∧ _
  obtain ⟨fs, hr, hrun, hended, hW⟩ := Jvm.Stand.leaveW X45 hS (by rw [e45]; omega) (v := some (.int (1 : Int32))) (fun h => by rw [Bd.returns] at h; cases h)
  have CHz : CHr Z own_EL s.vm s.heap T45.vm T45.heap := by rw [hh, e45]; exact CHr.trans CH34 (CHv.at X45 hZ hEL CH34.1)
  refine ⟨_, _, ?_, hrun, hended, _, _, rfl, ?_, CHz, ⟨hW.1, hW.2.1, hW.2.2.1, hW.2.2.2.mono (by decide) (by decide)⟩⟩
  · exact retN X45 hx (t := .boolean) Bd.returns (by simp) (hb hby at_313) hr
  · show Q_rm0 Z _ _ _ _ _ h0 n0 _ T45.heap _
    rw [e45]
    exact ⟨rfl, N45, K33⟩
set_option maxRecDepth 65536 in
set_option maxHeartbeats 40000000 in
theorem comes_1 {Post : Tables → Env → Array Value → State → Outcome → State → Prop} (hpost : ∀ tb e args s v u, (limb_1_1.after args s (.returned v) u = true ∧ limb_1_2.after args s (.returned v) u = true ∧ True) → ReturnedEndW s (.returned v) u (Jvm.fieldLocs frame_1_writes args s ++ Jvm.arrayLocs frame_1_arrays args s ++ Jvm.staticLocs frame_1_statics s) 40 4288 → Post tb e args s (.returned v) u) :
    ArmFor flags0 classFile x code maxLocals ret World_1 tables_1 room_1 Calls_1 rest_1 Pre_1 Post := by
  intro l hfl _ _ p e ha hc hk s m args below hf hA hF happ hP
  obtain ⟨hcalls, hrest, hpre⟩ := hP
  obtain ⟨-, -, -, hnamed, -, -, -, hat⟩ := (Spec.applies_iff hf).mp happ
  obtain ⟨hg, hn⟩ := and_e (Cond.before_iff.mp (show (Jvm.Cond.and given_1 narrow_1).before args s = true from hpre))
  obtain ⟨g1, g2⟩ := and_e hg
  obtain ⟨g3, g4⟩ := and_e g2
  obtain ⟨g5, g6⟩ := and_e g4
  obtain ⟨w0, w1, w2, rfl⟩ : ∃ w0 w1 w2 : Value, args = #[w0, w1, w2] := by
    have hs : args.size = 3 := by simpa [Cond.value, given_1] using g1
    obtain ⟨L⟩ := args
    match L, hs with
    | [w0, w1, w2], _ => exact ⟨w0, w1, w2, rfl⟩
  have hw := fun d (hd : d ∈ tables_1) => atoms_spec (ws := Jvm.Cond.code x code maxLocals ret :: tables_1) hat d (List.mem_cons_of_mem _ hd)
  have hfit : Fit s := fun {y c} hc i hi => by
    obtain ⟨ha, rfl⟩ := Array.getElem?_eq_some_iff.mp hc
    have q := List.all_eq_true.mp ((Array.all_eq_true_iff_forall_mem.mp hF) _ (Array.getElem_mem ha)) i (List.mem_range.mpr hi)
    simpa [Array.getElem?_eq_getElem hi] using q
  obtain ⟨hsets, hown0⟩ := atoms_of _ (rest_1_c_eq ▸ (show rest_1_c.before _ s = true from hrest))
  have hr0 := Cond.before_iff.mp hown0
  obtain ⟨i0, ei0⟩ := is_v g3
  obtain rfl : w0 = (.int i0) := Option.some.inj ei0
  obtain ⟨i1, ei1⟩ := is_v g5
  obtain rfl : w1 = (.int i1) := Option.some.inj ei1
  obtain ⟨i2, ei2⟩ := is_v g6
  obtain rfl : w2 = (.int i2) := Option.some.inj ei2
  have CI : (Jvm.Cond.isInt (Jvm.Term.static "java/lang/String" "COMPACT_STRINGS" "Z")).value _ s none s [] = some true := Cond.before_iff.mp (hsets _ (List.mem_of_getElem? (i := 1) rfl))
  obtain ⟨zc, evc⟩ := is_v CI
  have SCS : Sta s s.heap "java/lang/String" "COMPACT_STRINGS" "Z" (.int zc) := Sta.start evc (Or.inl (hsets _ (List.mem_of_getElem? (i := 0) rfl)))
  have hzc : ¬ (zc = (0 : Int32)) := gotF (Cond.eq_ints evc (Term.int_eval (0 : Int32))) (not_v (Cond.before_iff.mp (hsets _ (List.mem_of_getElem? (i := 2) rfl))))
  have FI : (Jvm.Cond.isRef (Jvm.Term.static "jdk/internal/util/Preconditions" "SIOOBE_FORMATTER" "Ljava/util/function/BiFunction;")).value _ s none s [] = some true := Cond.before_iff.mp (hsets _ (List.mem_of_getElem? (i := 8) rfl))
  obtain ⟨gv, evg, hgv⟩ := isR_v FI
  have SFM : Sta s s.heap "jdk/internal/util/Preconditions" "SIOOBE_FORMATTER" "Ljava/util/function/BiFunction;" gv := Sta.start evg (Or.inl (hsets _ (List.mem_of_getElem? (i := 7) rfl)))
  have hEL : EW s _ own_EL := EW.cons (own := "java/lang/String") (index := 7) (text := "") (hw _ (List.mem_of_getElem? (i := 18) rfl)) (by decide) (EW.cons (own := "com/example/ipomoea/ipomoea/store/JobKey") (index := 51) (text := "/") (hw _ (List.mem_of_getElem? (i := 115) rfl)) (by decide) EW.nil)
  have hCH0 : CHv s own_EL s.vm s.heap := CHv.start hEL (fun p hp => by
    rcases List.mem_cons.mp hp with rfl | hp
    · exact hcalls.1 _ (List.mem_of_getElem? (i := 3) rfl)
    · cases List.mem_singleton.mp hp; exact hcalls.1 _ (List.mem_of_getElem? (i := 2) rfl)) (hsets _ (List.mem_of_getElem? (i := 2) rfl)) (hw _ (List.mem_of_getElem? (i := 19) rfl)) (hw _ (List.mem_of_getElem? (i := 5) rfl))
  have OLD := Old.start s
  obtain ⟨n, o, h1, h2, h3, _, L, rfl, ⟨rfl, N, -⟩, -, hq⟩ := rm0 l s _ hw tables_1 i0 i1 i2 zc gv s.heap s.heap.size (Nat.le_refl _) OLD SCS SFM hzc hgv hEL p e ha hc hk s m _ below hf ((Spec.applies_iff_loose hf).mp happ).1 ⟨rfl, State.Warmed39.refl s, rfl, hCH0⟩ trivial
  refine ⟨n, _, h1, h2, h3, hpost _ _ _ _ _ _ ⟨Cond.after_iff.mpr rfl, Cond.after_iff.mpr (eq_i res_at (Term.int_eval (1)) rfl), trivial⟩ ⟨hq.1, hq.2.1, hq.2.2.1, (hq.2.2.2.sift fun y hy => Or.inr (N y hy)).mono (by decide) (by decide)⟩⟩
theorem main_1_1 : Claimed_1_1 := comes_1 fun _ _ _ _ _ _ h hF => ⟨h.1, hF⟩
theorem main_1_2 : Claimed_1_2 := comes_1 fun _ _ _ _ _ _ h hF => ⟨h.2.1, hF⟩
end Jvm.Pilot.@@N@@
namespace Jvm.Pilot.@@N@@
open Jvm Jvm.ClassFile Sem Op Lib Jvm.Free Jvm.Stand Jvm.Pilot.@@N@@.Jvm.D
/-! MADE BY PROGRAM (witnessworld.py) out of the Statement's table words and the real class files: 25 classes; the members and pool entries that the words name. The judged class is class 1, her method 1. -/
namespace start1
open Jvm.ClassFile
def u (s : String) : CpInfo := .utf8 (stringToUtf16 s)
/-- a pool by its gaps: so many unusable entries, then the entry; so many at the end -/
def gap : Nat → List CpInfo → List CpInfo
  | 0, r => r
  | n + 1, r => .unusable :: gap n r
def poolList (es : List (Nat × CpInfo)) (last : Nat) : List CpInfo := es.foldr (fun e r => gap e.1 (e.2 :: r)) (gap last [])
def pool (es : List (Nat × CpInfo)) (last : Nat) : Array CpInfo := ⟨poolList es last⟩
def fileOf (pool : Array CpInfo) (this : Nat) (attrs : Array Attribute := #[]) (ms : Array MethodInfo := #[]) (fl : Nat := 33) (sup : Nat := 0) (ifs : Array Nat := #[]) (fds : Array FieldInfo := #[]) : ClassFile where
  minorVersion := 0
  majorVersion := 65
  constantPool := pool
  accessFlags := fl
  thisClass := this
  superClass := sup
  interfaces := ifs
  fields := fds
  methods := ms
  attributes := attrs
def plain (name : String) (sup : Option ClassId) : Class where
  name := name
  kind := .ordinary
  loader := none
  accessFlags := 33
  super := sup
  interfaces := #[]
  cf := none
  fields := #[]
  methods := #[]
  instanceTypes := #[]
  staticTypes := #[]
  resolved := #[]
  callSites := []
  init := .initialized
  statics := none
  mirror := none

def pool0 : Array CpInfo := pool [(5, u "<init>"), (0, u "()V"), (1, .class_ 10), (1, u "java/lang/Object")] 113

def k0c0 : Code := { maxStack := 0, maxLocals := 1, code := object_method_1_code, exceptionTable := #[], attributes := #[] }
def k0m0 : Method := { name := "<init>", desc := "()V", sig := { parameters := [], returnType := none }, accessFlags := 1, code := some k0c0 }
/-- java/lang/Object -/
def k0 : Class := { plain "java/lang/Object" none with
  accessFlags := 33
  interfaces := #[]
  cf := some (fileOf pool0 8 #[] #[{ accessFlags := 1, nameIndex := 5, descriptorIndex := 6, attributes := #[] }] 33 0 #[] #[])
  fields := #[]
  methods := #[k0m0]
  instanceTypes := #[]
  staticTypes := #[]
  resolved := Array.replicate 124 none
  statics := none }

def pool1 : Array CpInfo := pool [(2, .class_ 4), (1, u "java/lang/Object"), (0, u "<init>"), (0, u "()V"), (0, .methodref 8 9), (0, .class_ 10), (0, .nameAndType 11 12), (0, u "com/example/ipomoea/ipomoea/store/JobKeyToStringPinLaw"), (0, u "mk"), (0, u "(ICCC)Ljava/lang/String;"), (0, .class_ 14), (0, u "com/example/ipomoea/ipomoea/store/JobKey"), (0, .methodref 13 16), (0, .nameAndType 5 17), (0, u "(Ljava/lang/String;Ljava/lang/String;)V"), (0, .methodref 13 19), (0, .nameAndType 20 21), (0, u "toString"), (0, u "()Ljava/lang/String;"), (0, .methodref 23 24), (0, .class_ 25), (0, .nameAndType 26 27), (0, u "java/lang/String"), (0, u "length"), (0, u "()I"), (0, .methodref 8 29), (0, .nameAndType 30 31), (0, u "at"), (0, u "(Ljava/lang/String;IIICCCCCC)Z"), (0, .methodref 23 33), (0, .nameAndType 5 34), (0, u "([C)V"), (0, .methodref 23 36), (0, .nameAndType 37 38), (0, u "valueOf"), (0, u "(C)Ljava/lang/String;"), (0, .methodref 8 40), (0, .nameAndType 41 42), (0, u "pick"), (0, u "(ICCC)C"), (0, .methodref 23 44), (0, .nameAndType 45 46), (0, u "charAt"), (0, u "(I)C"), (2, u "law"), (0, u "(III)Z")] 3

def k1m0 : Method := { name := "<init>", desc := "()V", sig := { parameters := [], returnType := none }, accessFlags := 1, code := none }
def k1c1 : Code := { maxStack := 10, maxLocals := 15, code := code, exceptionTable := #[], attributes := #[] }
def k1m1 : Method := { name := "law", desc := "(III)Z", sig := { parameters := [.int, .int, .int], returnType := some .boolean }, accessFlags := 9, code := some k1c1 }
def k1c2 : Code := { maxStack := 6, maxLocals := 4, code := method_3_code, exceptionTable := #[], attributes := #[] }
def k1m2 : Method := { name := "mk", desc := "(ICCC)Ljava/lang/String;", sig := { parameters := [.int, .char, .char, .char], returnType := some (.object "java/lang/String") }, accessFlags := 10, code := some k1c2 }
def k1c3 : Code := { maxStack := 2, maxLocals := 4, code := method_4_code, exceptionTable := #[], attributes := #[] }
def k1m3 : Method := { name := "pick", desc := "(ICCC)C", sig := { parameters := [.int, .char, .char, .char], returnType := some .char }, accessFlags := 10, code := some k1c3 }
def k1c4 : Code := { maxStack := 4, maxLocals := 11, code := method_5_code, exceptionTable := #[], attributes := #[] }
def k1m4 : Method := { name := "at", desc := "(Ljava/lang/String;IIICCCCCC)Z", sig := { parameters := [(.object "java/lang/String"), .int, .int, .int, .char, .char, .char, .char, .char, .char], returnType := some .boolean }, accessFlags := 10, code := some k1c4 }
/-- com/example/ipomoea/ipomoea/store/JobKeyToStringPinLaw -/
def k1 : Class := { plain "com/example/ipomoea/ipomoea/store/JobKeyToStringPinLaw" (some 0) with
  accessFlags := 49
  interfaces := #[]
  cf := some (fileOf pool1 8 #[] #[{ accessFlags := 1, nameIndex := 5, descriptorIndex := 6, attributes := #[] }, { accessFlags := 9, nameIndex := 49, descriptorIndex := 50, attributes := #[] }, { accessFlags := 10, nameIndex := 11, descriptorIndex := 12, attributes := #[] }, { accessFlags := 10, nameIndex := 41, descriptorIndex := 42, attributes := #[] }, { accessFlags := 10, nameIndex := 30, descriptorIndex := 31, attributes := #[] }] 49 2 #[] #[])
  fields := #[]
  methods := #[k1m0, k1m1, k1m2, k1m3, k1m4]
  instanceTypes := #[]
  staticTypes := #[]
  resolved := Array.replicate 54 none
  statics := none }

def pool2 : Array CpInfo := pool [(1, .class_ 2), (0, u "java/io/Serializable"), (0, .class_ 4), (0, u "java/lang/Object")] 2

/-- java/io/Serializable -/
def k2 : Class := { plain "java/io/Serializable" (some 0) with
  accessFlags := 1537
  interfaces := #[]
  cf := some (fileOf pool2 1 #[] #[] 1537 3 #[] #[])
  fields := #[]
  methods := #[]
  instanceTypes := #[]
  staticTypes := #[]
  resolved := Array.replicate 7 none
  statics := none }

def pool3 : Array CpInfo := pool [(1, .class_ 2), (0, u "java/lang/Comparable"), (0, .class_ 4), (0, u "java/lang/Object")] 7

/-- java/lang/Comparable -/
def k3 : Class := { plain "java/lang/Comparable" (some 0) with
  accessFlags := 1537
  interfaces := #[]
  cf := some (fileOf pool3 1 #[] #[] 1537 3 #[] #[])
  fields := #[]
  methods := #[]
  instanceTypes := #[]
  staticTypes := #[]
  resolved := Array.replicate 12 none
  statics := none }

def pool4 : Array CpInfo := pool [(2, .class_ 4), (1, u "java/lang/CharSequence"), (42, .class_ 48), (0, u "java/lang/CharSequence$1CodePointIterator"), (10, .class_ 60), (0, u "java/lang/CharSequence$1CharIterator"), (5, .class_ 67), (0, u "java/lang/Object")] 63

/-- java/lang/CharSequence -/
def k4 : Class := { plain "java/lang/CharSequence" (some 0) with
  accessFlags := 1537
  interfaces := #[]
  cf := some (fileOf pool4 2 #[.nestMembers #[47, 59]] #[] 1537 66 #[] #[])
  fields := #[]
  methods := #[]
  instanceTypes := #[]
  staticTypes := #[]
  resolved := Array.replicate 131 none
  statics := none }

def pool5 : Array CpInfo := pool [(1, .class_ 2), (0, u "java/lang/constant/Constable"), (0, .class_ 4), (0, u "java/lang/Object")] 6

/-- java/lang/constant/Constable -/
def k5 : Class := { plain "java/lang/constant/Constable" (some 0) with
  accessFlags := 1537
  interfaces := #[]
  cf := some (fileOf pool5 1 #[] #[] 1537 3 #[] #[])
  fields := #[]
  methods := #[]
  instanceTypes := #[]
  staticTypes := #[]
  resolved := Array.replicate 11 none
  statics := none }

def pool6 : Array CpInfo := pool [(1, .class_ 2), (0, u "java/lang/constant/ConstantDesc"), (0, .class_ 4), (0, u "java/lang/Object")] 32

/-- java/lang/constant/ConstantDesc -/
def k6 : Class := { plain "java/lang/constant/ConstantDesc" (some 0) with
  accessFlags := 1537
  interfaces := #[]
  cf := some (fileOf pool6 1 #[] #[] 1537 3 #[] #[])
  fields := #[]
  methods := #[]
  instanceTypes := #[]
  staticTypes := #[]
  resolved := Array.replicate 37 none
  statics := none }

def pool7 : Array CpInfo := pool [(1, .methodref 2 3), (0, .class_ 4), (0, .nameAndType 5 6), (0, u "java/lang/Object"), (0, u "<init>"), (0, u "()V"), (0, .string 8), (0, u ""), (0, .fieldref 10 11), (0, .class_ 12), (0, .nameAndType 13 14), (0, u "java/lang/String"), (0, u "value"), (0, u "[B"), (0, .fieldref 10 16), (0, .nameAndType 17 18), (0, u "coder"), (0, u "B"), (2, u "hash"), (0, u "I"), (2, u "hashIsZero"), (0, u "Z"), (0, .methodref 10 28), (0, .nameAndType 5 29), (0, u "([CIILjava/lang/Void;)V"), (8, .fieldref 10 39), (0, .nameAndType 40 26), (0, u "COMPACT_STRINGS"), (1, .class_ 44), (1, u "java/lang/StringUTF16"), (0, u "compress"), (1, .methodref 42 48), (0, .nameAndType 49 50), (0, u "coderFromArrayLen"), (0, u "([BI)B"), (2, u "toBytes"), (0, .methodref 55 56), (0, .class_ 57), (0, .nameAndType 58 59), (0, u "java/util/Arrays"), (0, u "copyOfRange"), (0, u "([BII)[B"), (47, .class_ 109), (1, u "java/lang/StringLatin1"), (32, u "()Z"), (34, .methodref 42 178), (0, .nameAndType 45 179), (0, u "([CII)[B"), (13, .class_ 195), (1, u "java/lang/System"), (13, .methodref 10 210), (0, .nameAndType 5 211), (0, u "([BB)V"), (0, .methodref 193 213), (0, .nameAndType 214 215), (0, u "arraycopy"), (0, u "(Ljava/lang/Object;ILjava/lang/Object;II)V"), (118, u "()I"), (0, .methodref 10 336), (0, .nameAndType 17 337), (0, u "()B"), (2, u "()[B"), (22, u "([BI)C"), (5, u "(C)Z"), (21, u "(II)V"), (35, u "(I)C"), (61, .methodref 10 490), (0, .nameAndType 5 491), (0, u "(Ljava/lang/AbstractStringBuilder;Ljava/lang/Void;)V"), (0, .methodref 10 493), (0, .nameAndType 494 142), (0, u "isLatin1"), (0, .methodref 107 496), (0, .nameAndType 497 363), (0, u "charAt"), (3, u "checkIndex"), (4, .nameAndType 507 334), (0, u "length"), (24, u "getBytes"), (16, .methodref 550 506), (0, .class_ 551), (0, u "java/lang/AbstractStringBuilder"), (0, .methodref 550 553), (0, .nameAndType 554 340), (0, u "getValue"), (20, .class_ 576), (0, u "java/lang/CharSequence"), (22, u "CASE_INSENSITIVE_ORDER"), (0, u "Ljava/util/Comparator;"), (181, u "valueOf"), (0, u "(C)Ljava/lang/String;"), (37, u "([BIB)V"), (188, u "([C)V"), (4, .methodref 107 1016), (0, .nameAndType 1017 369), (0, u "canEncode"), (0, .methodref 107 1019), (0, .nameAndType 53 1020), (0, u "(C)[B"), (26, .methodref 550 493), (5, .fieldref 1054 1055), (0, .class_ 1056), (0, .nameAndType 1057 1058), (0, u "jdk/internal/util/Preconditions"), (0, u "SIOOBE_FORMATTER"), (0, u "Ljava/util/function/BiFunction;"), (0, .methodref 1054 1060), (0, .nameAndType 501 1061), (0, u "(IILjava/util/function/BiFunction;)I"), (39, u "serialPersistentFields"), (0, u "[Ljava/io/ObjectStreamField;"), (0, .class_ 1104), (0, u "java/lang/String$CaseInsensitiveComparator"), (1, .class_ 1107), (0, u "java/io/Serializable"), (0, .class_ 1109), (0, u "java/lang/Comparable"), (0, .class_ 1111), (0, u "java/lang/constant/Constable"), (0, .class_ 1113), (0, u "java/lang/constant/ConstantDesc"), (2, u "serialVersionUID"), (0, u "J"), (3, u "REPL"), (0, u "C"), (2, u "LATIN1"), (1, u "UTF16"), (105, u "(Ljava/lang/StringBuilder;)V")] 217

def k7m0 : Method := { name := "<init>", desc := "()V", sig := { parameters := [], returnType := none }, accessFlags := 1, code := none }
def k7c1 : Code := { maxStack := 5, maxLocals := 2, code := jdk_42_method_3_code, exceptionTable := #[], attributes := #[] }
def k7m1 : Method := { name := "<init>", desc := "([C)V", sig := { parameters := [(.array .char)], returnType := none }, accessFlags := 1, code := some k7c1 }
def k7c2 : Code := { maxStack := 3, maxLocals := 2, code := jdk_42_method_53_code, exceptionTable := #[], attributes := #[] }
def k7m2 : Method := { name := "<init>", desc := "(Ljava/lang/StringBuilder;)V", sig := { parameters := [(.object "java/lang/StringBuilder")], returnType := none }, accessFlags := 1, code := some k7c2 }
def k7c3 : Code := { maxStack := 2, maxLocals := 1, code := jdk_42_method_54_code, exceptionTable := #[], attributes := #[] }
def k7m3 : Method := { name := "length", desc := "()I", sig := { parameters := [], returnType := some .int }, accessFlags := 1, code := some k7c3 }
def k7c4 : Code := { maxStack := 2, maxLocals := 2, code := jdk_42_method_56_code, exceptionTable := #[], attributes := #[] }
def k7m4 : Method := { name := "charAt", desc := "(I)C", sig := { parameters := [.int], returnType := some .char }, accessFlags := 1, code := some k7c4 }
def k7c5 : Code := { maxStack := 4, maxLocals := 1, code := jdk_42_method_139_code, exceptionTable := #[], attributes := #[] }
def k7m5 : Method := { name := "valueOf", desc := "(C)Ljava/lang/String;", sig := { parameters := [.char], returnType := some (.object "java/lang/String") }, accessFlags := 9, code := some k7c5 }
def k7c6 : Code := { maxStack := 5, maxLocals := 4, code := jdk_42_method_147_code, exceptionTable := #[], attributes := #[] }
def k7m6 : Method := { name := "getBytes", desc := "([BIB)V", sig := { parameters := [(.array .byte), .int, .byte], returnType := none }, accessFlags := 0, code := some k7c6 }
def k7c7 : Code := { maxStack := 4, maxLocals := 6, code := jdk_42_method_149_code, exceptionTable := #[], attributes := #[] }
def k7m7 : Method := { name := "<init>", desc := "([CIILjava/lang/Void;)V", sig := { parameters := [(.array .char), .int, .int, (.object "java/lang/Void")], returnType := none }, accessFlags := 2, code := some k7c7 }
def k7c8 : Code := { maxStack := 5, maxLocals := 5, code := jdk_42_method_150_code, exceptionTable := #[], attributes := #[] }
def k7m8 : Method := { name := "<init>", desc := "(Ljava/lang/AbstractStringBuilder;Ljava/lang/Void;)V", sig := { parameters := [(.object "java/lang/AbstractStringBuilder"), (.object "java/lang/Void")], returnType := none }, accessFlags := 0, code := some k7c8 }
def k7c9 : Code := { maxStack := 2, maxLocals := 3, code := jdk_42_method_151_code, exceptionTable := #[], attributes := #[] }
def k7m9 : Method := { name := "<init>", desc := "([BB)V", sig := { parameters := [(.array .byte), .byte], returnType := none }, accessFlags := 0, code := some k7c9 }
def k7c10 : Code := { maxStack := 1, maxLocals := 1, code := jdk_42_method_152_code, exceptionTable := #[], attributes := #[] }
def k7m10 : Method := { name := "coder", desc := "()B", sig := { parameters := [], returnType := some .byte }, accessFlags := 0, code := some k7c10 }
def k7c11 : Code := { maxStack := 1, maxLocals := 1, code := jdk_42_method_154_code, exceptionTable := #[], attributes := #[] }
def k7m11 : Method := { name := "isLatin1", desc := "()Z", sig := { parameters := [], returnType := some .boolean }, accessFlags := 0, code := some k7c11 }
def k7c12 : Code := { maxStack := 3, maxLocals := 2, code := jdk_42_method_155_code, exceptionTable := #[], attributes := #[] }
def k7m12 : Method := { name := "checkIndex", desc := "(II)V", sig := { parameters := [.int, .int], returnType := none }, accessFlags := 8, code := some k7c12 }
/-- java/lang/String -/
def k7 : Class := { plain "java/lang/String" (some 0) with
  accessFlags := 49
  interfaces := #[2, 3, 4, 5, 6]
  cf := some (fileOf pool7 10 #[.nestMembers #[1103]] #[{ accessFlags := 1, nameIndex := 5, descriptorIndex := 6, attributes := #[] }, { accessFlags := 1, nameIndex := 5, descriptorIndex := 1010, attributes := #[] }, { accessFlags := 1, nameIndex := 5, descriptorIndex := 1233, attributes := #[] }, { accessFlags := 1, nameIndex := 507, descriptorIndex := 334, attributes := #[] }, { accessFlags := 1, nameIndex := 497, descriptorIndex := 427, attributes := #[] }, { accessFlags := 9, nameIndex := 782, descriptorIndex := 783, attributes := #[] }, { accessFlags := 0, nameIndex := 532, descriptorIndex := 821, attributes := #[] }, { accessFlags := 2, nameIndex := 5, descriptorIndex := 29, attributes := #[] }, { accessFlags := 0, nameIndex := 5, descriptorIndex := 491, attributes := #[] }, { accessFlags := 0, nameIndex := 5, descriptorIndex := 211, attributes := #[] }, { accessFlags := 0, nameIndex := 17, descriptorIndex := 337, attributes := #[] }, { accessFlags := 0, nameIndex := 494, descriptorIndex := 142, attributes := #[] }, { accessFlags := 8, nameIndex := 501, descriptorIndex := 391, attributes := #[] }] 49 2 #[1106, 1108, 575, 1110, 1112] #[{ accessFlags := 18, nameIndex := 13, descriptorIndex := 14, attributes := #[] }, { accessFlags := 18, nameIndex := 17, descriptorIndex := 18, attributes := #[] }, { accessFlags := 2, nameIndex := 21, descriptorIndex := 22, attributes := #[] }, { accessFlags := 2, nameIndex := 25, descriptorIndex := 26, attributes := #[] }, { accessFlags := 26, nameIndex := 1116, descriptorIndex := 1117, attributes := #[] }, { accessFlags := 24, nameIndex := 40, descriptorIndex := 26, attributes := #[] }, { accessFlags := 26, nameIndex := 1101, descriptorIndex := 1102, attributes := #[] }, { accessFlags := 26, nameIndex := 1121, descriptorIndex := 1122, attributes := #[] }, { accessFlags := 25, nameIndex := 599, descriptorIndex := 600, attributes := #[] }, { accessFlags := 24, nameIndex := 1125, descriptorIndex := 18, attributes := #[] }, { accessFlags := 24, nameIndex := 1127, descriptorIndex := 18, attributes := #[] }])
  fields := #[{ name := "value", type := (.array .byte), accessFlags := 18, slot := 0, constantValue := 0 }, { name := "coder", type := .byte, accessFlags := 18, slot := 1, constantValue := 0 }, { name := "hash", type := .int, accessFlags := 2, slot := 2, constantValue := 0 }, { name := "hashIsZero", type := .boolean, accessFlags := 2, slot := 3, constantValue := 0 }, { name := "serialVersionUID", type := .long, accessFlags := 26, slot := 0, constantValue := 0 }, { name := "COMPACT_STRINGS", type := .boolean, accessFlags := 24, slot := 1, constantValue := 0 }, { name := "serialPersistentFields", type := (.array (.object "java/io/ObjectStreamField")), accessFlags := 26, slot := 2, constantValue := 0 }, { name := "REPL", type := .char, accessFlags := 26, slot := 3, constantValue := 0 }, { name := "CASE_INSENSITIVE_ORDER", type := (.object "java/util/Comparator"), accessFlags := 25, slot := 4, constantValue := 0 }, { name := "LATIN1", type := .byte, accessFlags := 24, slot := 5, constantValue := 0 }, { name := "UTF16", type := .byte, accessFlags := 24, slot := 6, constantValue := 0 }]
  methods := #[k7m0, k7m1, k7m2, k7m3, k7m4, k7m5, k7m6, k7m7, k7m8, k7m9, k7m10, k7m11, k7m12]
  instanceTypes := #[(.array .byte), .byte, .int, .boolean]
  staticTypes := #[.long, .boolean, (.array (.object "java/io/ObjectStreamField")), .char, (.object "java/util/Comparator"), .byte, .byte]
  resolved := Array.replicate 1451 none
  statics := some 0 }

def pool8 : Array CpInfo := pool [(1, .methodref 2 3), (0, .class_ 4), (0, .nameAndType 5 6), (0, u "java/lang/Object"), (0, u "<init>"), (0, u "()V"), (0, .string 8), (0, u "collection"), (0, .methodref 10 11), (0, .class_ 12), (0, .nameAndType 13 14), (0, u "java/util/Objects"), (0, u "requireNonNull"), (0, u "(Ljava/lang/Object;Ljava/lang/String;)Ljava/lang/Object;"), (0, .class_ 16), (0, u "java/lang/String"), (0, .fieldref 18 19), (0, .class_ 20), (0, .nameAndType 8 21), (0, u "com/example/ipomoea/ipomoea/store/JobKey"), (0, u "Ljava/lang/String;"), (0, .string 23), (0, u "name"), (0, .fieldref 18 25), (0, .nameAndType 23 21), (2, u "ORDER"), (0, u "Ljava/util/Comparator;"), (14, .class_ 45), (0, u "java/lang/StringBuilder"), (0, .methodref 44 3), (0, .methodref 44 48), (0, .nameAndType 49 50), (0, u "append"), (0, u "(Ljava/lang/String;)Ljava/lang/StringBuilder;"), (0, .string 52), (0, u "/"), (0, .methodref 44 54), (0, .nameAndType 55 56), (0, u "toString"), (0, u "()Ljava/lang/String;"), (16, .class_ 74), (0, u "java/lang/Comparable"), (2, u "(Ljava/lang/String;Ljava/lang/String;)V")] 35

def k8c0 : Code := { maxStack := 3, maxLocals := 3, code := prog_27_method_1_code, exceptionTable := #[], attributes := #[] }
def k8m0 : Method := { name := "<init>", desc := "(Ljava/lang/String;Ljava/lang/String;)V", sig := { parameters := [(.object "java/lang/String"), (.object "java/lang/String")], returnType := none }, accessFlags := 1, code := some k8c0 }
def k8c1 : Code := { maxStack := 2, maxLocals := 1, code := prog_27_method_7_code, exceptionTable := #[], attributes := #[] }
def k8m1 : Method := { name := "toString", desc := "()Ljava/lang/String;", sig := { parameters := [], returnType := some (.object "java/lang/String") }, accessFlags := 1, code := some k8c1 }
/-- com/example/ipomoea/ipomoea/store/JobKey -/
def k8 : Class := { plain "com/example/ipomoea/ipomoea/store/JobKey" (some 0) with
  accessFlags := 49
  interfaces := #[3]
  cf := some (fileOf pool8 18 #[] #[{ accessFlags := 1, nameIndex := 5, descriptorIndex := 77, attributes := #[] }, { accessFlags := 1, nameIndex := 55, descriptorIndex := 56, attributes := #[] }] 49 2 #[73] #[{ accessFlags := 26, nameIndex := 28, descriptorIndex := 29, attributes := #[] }, { accessFlags := 18, nameIndex := 8, descriptorIndex := 21, attributes := #[] }, { accessFlags := 18, nameIndex := 23, descriptorIndex := 21, attributes := #[] }])
  fields := #[{ name := "ORDER", type := (.object "java/util/Comparator"), accessFlags := 26, slot := 0, constantValue := 0 }, { name := "collection", type := (.object "java/lang/String"), accessFlags := 18, slot := 0, constantValue := 0 }, { name := "name", type := (.object "java/lang/String"), accessFlags := 18, slot := 1, constantValue := 0 }]
  methods := #[k8m0, k8m1]
  instanceTypes := #[(.object "java/lang/String"), (.object "java/lang/String")]
  staticTypes := #[(.object "java/util/Comparator")]
  resolved := Array.replicate 113 none
  statics := none }

def pool9 : Array CpInfo := pool [(2, .class_ 4), (1, u "java/lang/Object"), (0, u "<init>"), (0, u "()V"), (35, .class_ 44), (1, u "java/util/Objects"), (0, u "requireNonNull"), (48, u "(Ljava/lang/Object;Ljava/lang/String;)Ljava/lang/Object;")] 89

def k9m0 : Method := { name := "<init>", desc := "()V", sig := { parameters := [], returnType := none }, accessFlags := 2, code := none }
def k9c1 : Code := { maxStack := 3, maxLocals := 2, code := jdk_31_method_11_code, exceptionTable := #[], attributes := #[] }
def k9m1 : Method := { name := "requireNonNull", desc := "(Ljava/lang/Object;Ljava/lang/String;)Ljava/lang/Object;", sig := { parameters := [(.object "java/lang/Object"), (.object "java/lang/String")], returnType := some (.object "java/lang/Object") }, accessFlags := 9, code := some k9c1 }
/-- java/util/Objects -/
def k9 : Class := { plain "java/util/Objects" (some 0) with
  accessFlags := 49
  interfaces := #[]
  cf := some (fileOf pool9 42 #[] #[{ accessFlags := 2, nameIndex := 5, descriptorIndex := 6, attributes := #[] }, { accessFlags := 9, nameIndex := 45, descriptorIndex := 94, attributes := #[] }] 49 2 #[] #[])
  fields := #[]
  methods := #[k9m0, k9m1]
  instanceTypes := #[]
  staticTypes := #[]
  resolved := Array.replicate 184 none
  statics := none }

def pool10 : Array CpInfo := pool [(1, .class_ 2), (0, u "java/lang/Appendable"), (0, .class_ 4), (0, u "java/lang/Object")] 9

/-- java/lang/Appendable -/
def k10 : Class := { plain "java/lang/Appendable" (some 0) with
  accessFlags := 1537
  interfaces := #[]
  cf := some (fileOf pool10 1 #[] #[] 1537 3 #[] #[])
  fields := #[]
  methods := #[]
  instanceTypes := #[]
  staticTypes := #[]
  resolved := Array.replicate 14 none
  statics := none }

def pool11 : Array CpInfo := pool [(1, .class_ 2), (0, u "java/lang/String"), (0, .methodref 4 5), (0, .class_ 6), (0, .nameAndType 7 8), (0, u "java/lang/Object"), (0, u "<init>"), (0, u "()V"), (1, .class_ 12), (1, u "java/lang/AbstractStringBuilder"), (0, u "EMPTYVALUE"), (0, u "[B"), (0, .fieldref 10 16), (0, .nameAndType 17 14), (0, u "value"), (0, .fieldref 1 19), (0, .nameAndType 20 21), (0, u "COMPACT_STRINGS"), (0, u "Z"), (0, .fieldref 10 23), (0, .nameAndType 24 25), (0, u "coder"), (0, u "B"), (6, .methodref 1 33), (0, .nameAndType 34 35), (0, u "length"), (0, u "()I"), (4, .methodref 1 41), (0, .nameAndType 24 42), (0, u "()B"), (2, u "append"), (0, u "(Ljava/lang/String;)Ljava/lang/AbstractStringBuilder;"), (1, .class_ 49), (0, u "java/lang/CharSequence"), (19, u "(Ljava/lang/String;)V"), (5, u "maybeLatin1"), (3, .fieldref 10 80), (0, .nameAndType 81 82), (0, u "count"), (0, u "I"), (2, u "isLatin1"), (0, u "()Z"), (13, .methodref 10 101), (0, .nameAndType 102 103), (0, u "ensureCapacityInternal"), (0, u "(I)V"), (104, .methodref 10 209), (0, .nameAndType 210 211), (0, u "putStringAt"), (0, u "(ILjava/lang/String;)V"), (5, u "inflateIfNeededFor"), (2, .nameAndType 221 222), (0, u "getBytes"), (0, u "([BIB)V"), (174, .methodref 10 398), (0, .nameAndType 217 69), (0, .methodref 1 220), (3, u "()[B"), (40, .class_ 445), (0, u "java/lang/Appendable"), (106, u "getValue")] 56

def k11m0 : Method := { name := "<init>", desc := "()V", sig := { parameters := [], returnType := none }, accessFlags := 0, code := none }
def k11c1 : Code := { maxStack := 2, maxLocals := 2, code := jdk_68_method_2_code, exceptionTable := #[], attributes := #[] }
def k11m1 : Method := { name := "<init>", desc := "(I)V", sig := { parameters := [.int], returnType := none }, accessFlags := 0, code := some k11c1 }
def k11c2 : Code := { maxStack := 1, maxLocals := 1, code := jdk_68_method_6_code, exceptionTable := #[], attributes := #[] }
def k11m2 : Method := { name := "length", desc := "()I", sig := { parameters := [], returnType := some .int }, accessFlags := 1, code := some k11c2 }
def k11c3 : Code := { maxStack := 4, maxLocals := 3, code := jdk_68_method_9_code, exceptionTable := #[], attributes := #[] }
def k11m3 : Method := { name := "ensureCapacityInternal", desc := "(I)V", sig := { parameters := [.int], returnType := none }, accessFlags := 2, code := some k11c3 }
def k11c4 : Code := { maxStack := 3, maxLocals := 3, code := jdk_68_method_22_code, exceptionTable := #[], attributes := #[] }
def k11m4 : Method := { name := "append", desc := "(Ljava/lang/String;)Ljava/lang/AbstractStringBuilder;", sig := { parameters := [(.object "java/lang/String")], returnType := some (.object "java/lang/AbstractStringBuilder") }, accessFlags := 1, code := some k11c4 }
def k11c5 : Code := { maxStack := 1, maxLocals := 1, code := jdk_68_method_64_code, exceptionTable := #[], attributes := #[] }
def k11m5 : Method := { name := "getValue", desc := "()[B", sig := { parameters := [], returnType := some (.array .byte) }, accessFlags := 16, code := some k11c5 }
def k11c6 : Code := { maxStack := 1, maxLocals := 1, code := jdk_68_method_68_code, exceptionTable := #[], attributes := #[] }
def k11m6 : Method := { name := "isLatin1", desc := "()Z", sig := { parameters := [], returnType := some .boolean }, accessFlags := 16, code := some k11c6 }
def k11c7 : Code := { maxStack := 2, maxLocals := 2, code := jdk_68_method_71_code, exceptionTable := #[], attributes := #[] }
def k11m7 : Method := { name := "inflateIfNeededFor", desc := "(Ljava/lang/String;)V", sig := { parameters := [(.object "java/lang/String")], returnType := none }, accessFlags := 2, code := some k11c7 }
def k11c8 : Code := { maxStack := 4, maxLocals := 3, code := jdk_68_method_73_code, exceptionTable := #[], attributes := #[] }
def k11m8 : Method := { name := "putStringAt", desc := "(ILjava/lang/String;)V", sig := { parameters := [.int, (.object "java/lang/String")], returnType := none }, accessFlags := 2, code := some k11c8 }
/-- java/lang/AbstractStringBuilder -/
def k11 : Class := { plain "java/lang/AbstractStringBuilder" (some 0) with
  accessFlags := 1056
  interfaces := #[10, 4]
  cf := some (fileOf pool11 10 #[] #[{ accessFlags := 0, nameIndex := 7, descriptorIndex := 8, attributes := #[] }, { accessFlags := 0, nameIndex := 7, descriptorIndex := 103, attributes := #[] }, { accessFlags := 1, nameIndex := 34, descriptorIndex := 35, attributes := #[] }, { accessFlags := 2, nameIndex := 102, descriptorIndex := 103, attributes := #[] }, { accessFlags := 1, nameIndex := 45, descriptorIndex := 46, attributes := #[] }, { accessFlags := 16, nameIndex := 552, descriptorIndex := 403, attributes := #[] }, { accessFlags := 16, nameIndex := 85, descriptorIndex := 86, attributes := #[] }, { accessFlags := 2, nameIndex := 217, descriptorIndex := 69, attributes := #[] }, { accessFlags := 2, nameIndex := 210, descriptorIndex := 211, attributes := #[] }] 1056 4 #[444, 48] #[{ accessFlags := 0, nameIndex := 17, descriptorIndex := 14, attributes := #[] }, { accessFlags := 0, nameIndex := 24, descriptorIndex := 25, attributes := #[] }, { accessFlags := 0, nameIndex := 75, descriptorIndex := 21, attributes := #[] }, { accessFlags := 0, nameIndex := 81, descriptorIndex := 82, attributes := #[] }, { accessFlags := 26, nameIndex := 13, descriptorIndex := 14, attributes := #[] }])
  fields := #[{ name := "value", type := (.array .byte), accessFlags := 0, slot := 0, constantValue := 0 }, { name := "coder", type := .byte, accessFlags := 0, slot := 1, constantValue := 0 }, { name := "maybeLatin1", type := .boolean, accessFlags := 0, slot := 2, constantValue := 0 }, { name := "count", type := .int, accessFlags := 0, slot := 3, constantValue := 0 }, { name := "EMPTYVALUE", type := (.array .byte), accessFlags := 26, slot := 0, constantValue := 0 }]
  methods := #[k11m0, k11m1, k11m2, k11m3, k11m4, k11m5, k11m6, k11m7, k11m8]
  instanceTypes := #[(.array .byte), .byte, .boolean, .int]
  staticTypes := #[(.array .byte)]
  resolved := Array.replicate 609 none
  statics := none }

def pool12 : Array CpInfo := pool [(1, .methodref 2 3), (0, .class_ 4), (0, .nameAndType 5 6), (0, u "java/lang/AbstractStringBuilder"), (0, u "<init>"), (0, u "(I)V"), (11, .class_ 20), (1, u "java/lang/String"), (3, .class_ 26), (1, u "java/lang/StringBuilder"), (0, u "append"), (0, u "(Ljava/lang/String;)Ljava/lang/StringBuilder;"), (0, .methodref 2 30), (0, .nameAndType 27 31), (0, u "(Ljava/lang/String;)Ljava/lang/AbstractStringBuilder;"), (105, .methodref 18 138), (0, .nameAndType 5 139), (0, u "(Ljava/lang/StringBuilder;)V"), (5, u "()V"), (10, u "()I"), (186, .methodref 2 344), (0, .nameAndType 345 156), (0, u "length"), (3, .class_ 350), (0, u "java/lang/Appendable"), (0, .class_ 352), (0, u "java/io/Serializable"), (0, .class_ 354), (0, u "java/lang/Comparable"), (0, .class_ 356), (0, u "java/lang/CharSequence"), (0, u "serialVersionUID"), (0, u "J"), (40, u "toString"), (0, u "()Ljava/lang/String;")] 21

def k12c0 : Code := { maxStack := 2, maxLocals := 1, code := jdk_67_method_1_code, exceptionTable := #[], attributes := #[] }
def k12m0 : Method := { name := "<init>", desc := "()V", sig := { parameters := [], returnType := none }, accessFlags := 1, code := some k12c0 }
def k12c1 : Code := { maxStack := 2, maxLocals := 2, code := jdk_67_method_7_code, exceptionTable := #[], attributes := #[] }
def k12m1 : Method := { name := "append", desc := "(Ljava/lang/String;)Ljava/lang/StringBuilder;", sig := { parameters := [(.object "java/lang/String")], returnType := some (.object "java/lang/StringBuilder") }, accessFlags := 1, code := some k12c1 }
def k12c2 : Code := { maxStack := 3, maxLocals := 1, code := jdk_67_method_42_code, exceptionTable := #[], attributes := #[] }
def k12m2 : Method := { name := "toString", desc := "()Ljava/lang/String;", sig := { parameters := [], returnType := some (.object "java/lang/String") }, accessFlags := 1, code := some k12c2 }
def k12c3 : Code := { maxStack := 1, maxLocals := 1, code := jdk_67_method_93_code, exceptionTable := #[], attributes := #[] }
def k12m3 : Method := { name := "length", desc := "()I", sig := { parameters := [], returnType := some .int }, accessFlags := 4161, code := some k12c3 }
/-- java/lang/StringBuilder -/
def k12 : Class := { plain "java/lang/StringBuilder" (some 11) with
  accessFlags := 49
  interfaces := #[10, 2, 3, 4]
  cf := some (fileOf pool12 24 #[] #[{ accessFlags := 1, nameIndex := 5, descriptorIndex := 145, attributes := #[] }, { accessFlags := 1, nameIndex := 27, descriptorIndex := 28, attributes := #[] }, { accessFlags := 1, nameIndex := 399, descriptorIndex := 400, attributes := #[] }, { accessFlags := 4161, nameIndex := 345, descriptorIndex := 156, attributes := #[] }] 49 2 #[349, 351, 353, 355] #[{ accessFlags := 24, nameIndex := 357, descriptorIndex := 358, attributes := #[] }])
  fields := #[{ name := "serialVersionUID", type := .long, accessFlags := 24, slot := 0, constantValue := 0 }]
  methods := #[k12m0, k12m1, k12m2, k12m3]
  instanceTypes := #[(.array .byte), .byte, .boolean, .int]
  staticTypes := #[.long]
  resolved := Array.replicate 422 none
  statics := none }

def pool13 : Array CpInfo := pool [(2, .class_ 4), (1, u "java/lang/Object"), (0, u "<init>"), (0, u "()V"), (1, .class_ 10), (1, u "java/lang/System"), (0, u "allowSecurityManager"), (0, u "I"), (16, u "cons"), (0, u "Ljava/io/Console;"), (77, .class_ 110), (1, u "java/lang/System$CallersHolder"), (43, u "initialErrStream"), (0, u "Ljava/io/PrintStream;"), (19, u "security"), (0, u "Ljava/lang/SecurityManager;"), (31, .class_ 209), (0, u "java/lang/System$1"), (7, u "props"), (0, u "Ljava/util/Properties;"), (2, u "lineSeparator"), (0, u "Ljava/lang/String;"), (96, .class_ 321), (1, u "java/lang/System$LoggerFinder"), (5, .class_ 328), (0, u "java/lang/System$Logger"), (67, u "err"), (2, u "out"), (91, u "notSupportedJnuEncoding"), (15, u "in"), (17, u "initialIn"), (0, u "Ljava/io/InputStream;"), (35, u "bootLayer"), (0, u "Ljava/lang/ModuleLayer;"), (99, .class_ 664), (0, u "java/lang/System$2"), (9, u "NEVER"), (2, u "MAYBE"), (49, u "arraycopy"), (0, u "(Ljava/lang/Object;ILjava/lang/Object;II)V"), (72, .class_ 802), (0, u "java/lang/System$Logger$Level")] 31

def k13m0 : Method := { name := "<init>", desc := "()V", sig := { parameters := [], returnType := none }, accessFlags := 2, code := none }
def k13m1 : Method := { name := "arraycopy", desc := "(Ljava/lang/Object;ILjava/lang/Object;II)V", sig := { parameters := [(.object "java/lang/Object"), .int, (.object "java/lang/Object"), .int, .int], returnType := none }, accessFlags := 265, code := none }
/-- java/lang/System -/
def k13 : Class := { plain "java/lang/System" (some 0) with
  accessFlags := 49
  interfaces := #[]
  cf := some (fileOf pool13 8 #[.nestMembers #[319, 327, 801, 108, 663, 208]] #[{ accessFlags := 2, nameIndex := 5, descriptorIndex := 6, attributes := #[] }, { accessFlags := 265, nameIndex := 727, descriptorIndex := 728, attributes := #[] }] 49 2 #[] #[{ accessFlags := 25, nameIndex := 507, descriptorIndex := 526, attributes := #[] }, { accessFlags := 25, nameIndex := 399, descriptorIndex := 155, attributes := #[] }, { accessFlags := 25, nameIndex := 396, descriptorIndex := 155, attributes := #[] }, { accessFlags := 10, nameIndex := 525, descriptorIndex := 526, attributes := #[] }, { accessFlags := 26, nameIndex := 674, descriptorIndex := 12, attributes := #[] }, { accessFlags := 26, nameIndex := 677, descriptorIndex := 12, attributes := #[] }, { accessFlags := 10, nameIndex := 11, descriptorIndex := 12, attributes := #[] }, { accessFlags := 74, nameIndex := 175, descriptorIndex := 176, attributes := #[] }, { accessFlags := 10, nameIndex := 491, descriptorIndex := 222, attributes := #[] }, { accessFlags := 74, nameIndex := 29, descriptorIndex := 30, attributes := #[] }, { accessFlags := 74, nameIndex := 154, descriptorIndex := 155, attributes := #[] }, { accessFlags := 10, nameIndex := 217, descriptorIndex := 218, attributes := #[] }, { accessFlags := 10, nameIndex := 221, descriptorIndex := 222, attributes := #[] }, { accessFlags := 8, nameIndex := 562, descriptorIndex := 563, attributes := #[] }])
  fields := #[{ name := "in", type := (.object "java/io/InputStream"), accessFlags := 25, slot := 0, constantValue := 0 }, { name := "out", type := (.object "java/io/PrintStream"), accessFlags := 25, slot := 1, constantValue := 0 }, { name := "err", type := (.object "java/io/PrintStream"), accessFlags := 25, slot := 2, constantValue := 0 }, { name := "initialIn", type := (.object "java/io/InputStream"), accessFlags := 10, slot := 3, constantValue := 0 }, { name := "NEVER", type := .int, accessFlags := 26, slot := 4, constantValue := 0 }, { name := "MAYBE", type := .int, accessFlags := 26, slot := 5, constantValue := 0 }, { name := "allowSecurityManager", type := .int, accessFlags := 10, slot := 6, constantValue := 0 }, { name := "security", type := (.object "java/lang/SecurityManager"), accessFlags := 74, slot := 7, constantValue := 0 }, { name := "notSupportedJnuEncoding", type := (.object "java/lang/String"), accessFlags := 10, slot := 8, constantValue := 0 }, { name := "cons", type := (.object "java/io/Console"), accessFlags := 74, slot := 9, constantValue := 0 }, { name := "initialErrStream", type := (.object "java/io/PrintStream"), accessFlags := 74, slot := 10, constantValue := 0 }, { name := "props", type := (.object "java/util/Properties"), accessFlags := 10, slot := 11, constantValue := 0 }, { name := "lineSeparator", type := (.object "java/lang/String"), accessFlags := 10, slot := 12, constantValue := 0 }, { name := "bootLayer", type := (.object "java/lang/ModuleLayer"), accessFlags := 8, slot := 13, constantValue := 0 }]
  methods := #[k13m0, k13m1]
  instanceTypes := #[]
  staticTypes := #[(.object "java/io/InputStream"), (.object "java/io/PrintStream"), (.object "java/io/PrintStream"), (.object "java/io/InputStream"), .int, .int, .int, (.object "java/lang/SecurityManager"), (.object "java/lang/String"), (.object "java/io/Console"), (.object "java/io/PrintStream"), (.object "java/util/Properties"), (.object "java/lang/String"), (.object "java/lang/ModuleLayer")]
  resolved := Array.replicate 834 none
  statics := none }

def pool14 : Array CpInfo := pool [(2, .class_ 4), (1, u "java/lang/Object"), (0, u "<init>"), (0, u "()V"), (7, .class_ 16), (1, u "java/util/Arrays"), (57, .class_ 76), (1, u "java/util/Arrays$NaturalOrder"), (36, .class_ 115), (1, u "java/util/Arrays$LegacyMergeSort"), (1, u "Z"), (21, u "copyOfRange"), (10, .methodref 151 152), (0, .class_ 153), (0, .nameAndType 154 155), (0, u "java/lang/System"), (0, u "arraycopy"), (0, u "(Ljava/lang/Object;ILjava/lang/Object;II)V"), (148, .methodref 305 306), (0, .class_ 307), (0, .nameAndType 308 309), (0, u "java/lang/Math"), (0, u "min"), (0, u "(II)I"), (29, .methodref 14 340), (0, .nameAndType 341 342), (0, u "copyOfRangeByte"), (0, u "([BII)[B"), (0, .methodref 14 344), (0, .nameAndType 345 346), (0, u "checkLength"), (0, u "(II)V"), (28, .class_ 376), (0, u "java/util/Arrays$ArrayList"), (68, u "$assertionsDisabled"), (269, u "MIN_ARRAY_SORT_GRAN"), (0, u "I"), (2, u "INSERTIONSORT_THRESHOLD"), (255, .class_ 976), (0, u "java/util/Arrays$ArrayItr")] 52

def k14m0 : Method := { name := "<init>", desc := "()V", sig := { parameters := [], returnType := none }, accessFlags := 2, code := none }
def k14c1 : Code := { maxStack := 4, maxLocals := 2, code := jdk_65_method_131_code, exceptionTable := #[], attributes := #[] }
def k14m1 : Method := { name := "checkLength", desc := "(II)V", sig := { parameters := [.int, .int], returnType := none }, accessFlags := 10, code := some k14c1 }
def k14c2 : Code := { maxStack := 3, maxLocals := 3, code := jdk_65_method_132_code, exceptionTable := #[], attributes := #[] }
def k14m2 : Method := { name := "copyOfRange", desc := "([BII)[B", sig := { parameters := [(.array .byte), .int, .int], returnType := some (.array .byte) }, accessFlags := 9, code := some k14c2 }
def k14c3 : Code := { maxStack := 6, maxLocals := 5, code := jdk_65_method_133_code, exceptionTable := #[], attributes := #[] }
def k14m3 : Method := { name := "copyOfRangeByte", desc := "([BII)[B", sig := { parameters := [(.array .byte), .int, .int], returnType := some (.array .byte) }, accessFlags := 10, code := some k14c3 }
/-- java/util/Arrays -/
def k14 : Class := { plain "java/util/Arrays" (some 0) with
  accessFlags := 49
  interfaces := #[]
  cf := some (fileOf pool14 14 #[.nestMembers #[975, 375, 113, 74]] #[{ accessFlags := 2, nameIndex := 5, descriptorIndex := 6, attributes := #[] }, { accessFlags := 10, nameIndex := 345, descriptorIndex := 346, attributes := #[] }, { accessFlags := 9, nameIndex := 139, descriptorIndex := 342, attributes := #[] }, { accessFlags := 10, nameIndex := 341, descriptorIndex := 342, attributes := #[] }] 49 2 #[] #[{ accessFlags := 26, nameIndex := 715, descriptorIndex := 716, attributes := #[] }, { accessFlags := 26, nameIndex := 719, descriptorIndex := 716, attributes := #[] }, { accessFlags := 4120, nameIndex := 445, descriptorIndex := 117, attributes := #[] }])
  fields := #[{ name := "MIN_ARRAY_SORT_GRAN", type := .int, accessFlags := 26, slot := 0, constantValue := 0 }, { name := "INSERTIONSORT_THRESHOLD", type := .int, accessFlags := 26, slot := 1, constantValue := 0 }, { name := "$assertionsDisabled", type := .boolean, accessFlags := 4120, slot := 2, constantValue := 0 }]
  methods := #[k14m0, k14m1, k14m2, k14m3]
  instanceTypes := #[]
  staticTypes := #[.int, .int, .boolean]
  resolved := Array.replicate 1029 none
  statics := none }

def pool15 : Array CpInfo := pool [(1, .class_ 2), (0, u "java/lang/Math"), (1, .class_ 6), (1, u "java/lang/Object"), (0, u "<init>"), (0, u "()V"), (89, .class_ 100), (1, u "java/lang/Math$RandomNumberGeneratorHolder"), (71, u "negativeZeroFloatBits"), (0, u "J"), (2, u "negativeZeroDoubleBits"), (24, u "min"), (43, u "$assertionsDisabled"), (0, u "Z"), (88, u "(II)I"), (2, u "twoToTheDoubleScaleDown"), (0, u "D"), (4, u "twoToTheDoubleScaleUp"), (9, u "E"), (3, u "PI"), (2, u "TAU"), (2, u "DEGREES_TO_RADIANS"), (0, u "RADIANS_TO_DEGREES")] 94

def k15m0 : Method := { name := "<init>", desc := "()V", sig := { parameters := [], returnType := none }, accessFlags := 2, code := none }
def k15c1 : Code := { maxStack := 2, maxLocals := 2, code := jdk_29_method_69_code, exceptionTable := #[], attributes := #[] }
def k15m1 : Method := { name := "min", desc := "(II)I", sig := { parameters := [.int, .int], returnType := some .int }, accessFlags := 9, code := some k15c1 }
/-- java/lang/Math -/
def k15 : Class := { plain "java/lang/Math" (some 0) with
  accessFlags := 49
  interfaces := #[]
  cf := some (fileOf pool15 1 #[.nestMembers #[98]] #[{ accessFlags := 2, nameIndex := 7, descriptorIndex := 8, attributes := #[] }, { accessFlags := 9, nameIndex := 201, descriptorIndex := 335, attributes := #[] }] 49 4 #[] #[{ accessFlags := 25, nameIndex := 354, descriptorIndex := 339, attributes := #[] }, { accessFlags := 25, nameIndex := 358, descriptorIndex := 339, attributes := #[] }, { accessFlags := 25, nameIndex := 361, descriptorIndex := 339, attributes := #[] }, { accessFlags := 26, nameIndex := 364, descriptorIndex := 339, attributes := #[] }, { accessFlags := 26, nameIndex := 365, descriptorIndex := 339, attributes := #[] }, { accessFlags := 26, nameIndex := 172, descriptorIndex := 173, attributes := #[] }, { accessFlags := 26, nameIndex := 176, descriptorIndex := 173, attributes := #[] }, { accessFlags := 8, nameIndex := 344, descriptorIndex := 339, attributes := #[] }, { accessFlags := 8, nameIndex := 338, descriptorIndex := 339, attributes := #[] }, { accessFlags := 4120, nameIndex := 245, descriptorIndex := 246, attributes := #[] }])
  fields := #[{ name := "E", type := .double, accessFlags := 25, slot := 0, constantValue := 0 }, { name := "PI", type := .double, accessFlags := 25, slot := 1, constantValue := 0 }, { name := "TAU", type := .double, accessFlags := 25, slot := 2, constantValue := 0 }, { name := "DEGREES_TO_RADIANS", type := .double, accessFlags := 26, slot := 3, constantValue := 0 }, { name := "RADIANS_TO_DEGREES", type := .double, accessFlags := 26, slot := 4, constantValue := 0 }, { name := "negativeZeroFloatBits", type := .long, accessFlags := 26, slot := 5, constantValue := 0 }, { name := "negativeZeroDoubleBits", type := .long, accessFlags := 26, slot := 6, constantValue := 0 }, { name := "twoToTheDoubleScaleUp", type := .double, accessFlags := 8, slot := 7, constantValue := 0 }, { name := "twoToTheDoubleScaleDown", type := .double, accessFlags := 8, slot := 8, constantValue := 0 }, { name := "$assertionsDisabled", type := .boolean, accessFlags := 4120, slot := 9, constantValue := 0 }]
  methods := #[k15m0, k15m1]
  instanceTypes := #[]
  staticTypes := #[.double, .double, .double, .double, .double, .long, .long, .double, .double, .boolean]
  resolved := Array.replicate 460 none
  statics := none }

def pool16 : Array CpInfo := pool [(1, .class_ 2), (0, u "java/lang/String"), (1, .class_ 6), (1, u "java/lang/Object"), (0, u "<init>"), (0, u "()V"), (0, .methodref 1 10), (0, .nameAndType 11 12), (0, u "checkIndex"), (0, u "(II)V"), (1, .class_ 16), (1, u "java/lang/StringLatin1"), (36, u "([BI)C"), (36, u "canEncode"), (14, u "(C)Z"), (15, u "$assertionsDisabled"), (0, u "Z"), (98, .class_ 223), (1, u "java/lang/StringLatin1$LinesSpliterator"), (28, u "charAt"), (127, u "toBytes"), (1, u "(C)[B"), (7, .class_ 391), (0, u "java/lang/StringLatin1$CharsSpliterator")] 3

def k16m0 : Method := { name := "<init>", desc := "()V", sig := { parameters := [], returnType := none }, accessFlags := 0, code := none }
def k16c1 : Code := { maxStack := 2, maxLocals := 2, code := jdk_43_method_2_code, exceptionTable := #[], attributes := #[] }
def k16m1 : Method := { name := "charAt", desc := "([BI)C", sig := { parameters := [(.array .byte), .int], returnType := some .char }, accessFlags := 9, code := some k16c1 }
def k16c2 : Code := { maxStack := 2, maxLocals := 1, code := jdk_43_method_3_code, exceptionTable := #[], attributes := #[] }
def k16m2 : Method := { name := "canEncode", desc := "(C)Z", sig := { parameters := [.char], returnType := some .boolean }, accessFlags := 9, code := some k16c2 }
def k16c3 : Code := { maxStack := 4, maxLocals := 1, code := jdk_43_method_46_code, exceptionTable := #[], attributes := #[] }
def k16m3 : Method := { name := "toBytes", desc := "(C)[B", sig := { parameters := [.char], returnType := some (.array .byte) }, accessFlags := 9, code := some k16c3 }
/-- java/lang/StringLatin1 -/
def k16 : Class := { plain "java/lang/StringLatin1" (some 0) with
  accessFlags := 48
  interfaces := #[]
  cf := some (fileOf pool16 14 #[.nestMembers #[390, 221]] #[{ accessFlags := 0, nameIndex := 7, descriptorIndex := 8, attributes := #[] }, { accessFlags := 9, nameIndex := 252, descriptorIndex := 53, attributes := #[] }, { accessFlags := 9, nameIndex := 90, descriptorIndex := 105, attributes := #[] }, { accessFlags := 9, nameIndex := 380, descriptorIndex := 382, attributes := #[] }] 48 4 #[] #[{ accessFlags := 4120, nameIndex := 121, descriptorIndex := 122, attributes := #[] }])
  fields := #[{ name := "$assertionsDisabled", type := .boolean, accessFlags := 4120, slot := 0, constantValue := 0 }]
  methods := #[k16m0, k16m1, k16m2, k16m3]
  instanceTypes := #[]
  staticTypes := #[.boolean]
  resolved := Array.replicate 395 none
  statics := none }

def pool17 : Array CpInfo := pool [(2, .class_ 4), (1, u "java/lang/Object"), (0, u "<init>"), (0, u "()V"), (17, .class_ 26), (1, u "jdk/internal/util/Preconditions"), (6, u "checkIndex"), (21, .class_ 56), (0, u "jdk/internal/util/Preconditions$4"), (57, .class_ 115), (0, u "jdk/internal/util/Preconditions$1"), (7, u "SIOOBE_FORMATTER"), (0, u "Ljava/util/function/BiFunction;"), (0, .class_ 126), (0, u "jdk/internal/util/Preconditions$2"), (3, u "AIOOBE_FORMATTER"), (0, .class_ 132), (0, u "jdk/internal/util/Preconditions$3"), (3, u "IOOBE_FORMATTER"), (41, u "(IILjava/util/function/BiFunction;)I")] 15

def k17m0 : Method := { name := "<init>", desc := "()V", sig := { parameters := [], returnType := none }, accessFlags := 1, code := none }
def k17c1 : Code := { maxStack := 3, maxLocals := 3, code := jdk_41_method_11_code, exceptionTable := #[], attributes := #[] }
def k17m1 : Method := { name := "checkIndex", desc := "(IILjava/util/function/BiFunction;)I", sig := { parameters := [.int, .int, (.object "java/util/function/BiFunction")], returnType := some .int }, accessFlags := 9, code := some k17c1 }
/-- jdk/internal/util/Preconditions -/
def k17 : Class := { plain "jdk/internal/util/Preconditions" (some 0) with
  accessFlags := 33
  interfaces := #[]
  cf := some (fileOf pool17 24 #[.nestMembers #[55, 131, 125, 114]] #[{ accessFlags := 1, nameIndex := 5, descriptorIndex := 6, attributes := #[] }, { accessFlags := 9, nameIndex := 33, descriptorIndex := 178, attributes := #[] }] 33 2 #[] #[{ accessFlags := 25, nameIndex := 123, descriptorIndex := 124, attributes := #[] }, { accessFlags := 25, nameIndex := 130, descriptorIndex := 124, attributes := #[] }, { accessFlags := 25, nameIndex := 136, descriptorIndex := 124, attributes := #[] }])
  fields := #[{ name := "SIOOBE_FORMATTER", type := (.object "java/util/function/BiFunction"), accessFlags := 25, slot := 0, constantValue := 0 }, { name := "AIOOBE_FORMATTER", type := (.object "java/util/function/BiFunction"), accessFlags := 25, slot := 1, constantValue := 0 }, { name := "IOOBE_FORMATTER", type := (.object "java/util/function/BiFunction"), accessFlags := 25, slot := 2, constantValue := 0 }]
  methods := #[k17m0, k17m1]
  instanceTypes := #[]
  staticTypes := #[(.object "java/util/function/BiFunction"), (.object "java/util/function/BiFunction"), (.object "java/util/function/BiFunction")]
  resolved := Array.replicate 194 none
  statics := some 1 }

def pool18 : Array CpInfo := pool [(6, .class_ 8), (1, u "java/lang/Object"), (0, u "<init>"), (0, u "()V"), (1, .class_ 14), (1, u "java/lang/StringUTF16"), (31, u "$assertionsDisabled"), (0, u "Z"), (13, u "HI_BYTE_SHIFT"), (0, u "I"), (2, u "LO_BYTE_SHIFT"), (49, .methodref 12 116), (0, .nameAndType 117 118), (0, u "compress"), (0, u "([CI[BII)I"), (3, u "([CII)[B"), (138, u "coderFromArrayLen"), (0, u "([BI)B"), (106, .class_ 371), (1, u "java/lang/StringUTF16$LinesSpliterator"), (58, u "MAX_LENGTH"), (196, .class_ 628), (0, u "java/lang/StringUTF16$CodePointsSpliterator"), (0, .class_ 630), (0, u "java/lang/StringUTF16$CharsSpliterator")] 4

def k18m0 : Method := { name := "<init>", desc := "()V", sig := { parameters := [], returnType := none }, accessFlags := 0, code := none }
def k18c1 : Code := { maxStack := 2, maxLocals := 2, code := jdk_52_method_15_code, exceptionTable := #[], attributes := #[] }
def k18m1 : Method := { name := "coderFromArrayLen", desc := "([BI)B", sig := { parameters := [(.array .byte), .int], returnType := some .byte }, accessFlags := 8, code := some k18c1 }
def k18c2 : Code := { maxStack := 5, maxLocals := 6, code := jdk_52_method_16_code, exceptionTable := #[], attributes := #[] }
def k18m2 : Method := { name := "compress", desc := "([CII)[B", sig := { parameters := [(.array .char), .int, .int], returnType := some (.array .byte) }, accessFlags := 9, code := some k18c2 }
def k18c3 : Code := { maxStack := 3, maxLocals := 7, code := jdk_52_method_21_code, exceptionTable := #[], attributes := #[] }
def k18m3 : Method := { name := "compress", desc := "([CI[BII)I", sig := { parameters := [(.array .char), .int, (.array .byte), .int, .int], returnType := some .int }, accessFlags := 9, code := some k18c3 }
/-- java/lang/StringUTF16 -/
def k18 : Class := { plain "java/lang/StringUTF16" (some 0) with
  accessFlags := 48
  interfaces := #[]
  cf := some (fileOf pool18 12 #[.nestMembers #[627, 629, 369]] #[{ accessFlags := 0, nameIndex := 9, descriptorIndex := 10, attributes := #[] }, { accessFlags := 8, nameIndex := 261, descriptorIndex := 262, attributes := #[] }, { accessFlags := 9, nameIndex := 117, descriptorIndex := 122, attributes := #[] }, { accessFlags := 9, nameIndex := 117, descriptorIndex := 118, attributes := #[] }] 48 6 #[] #[{ accessFlags := 26, nameIndex := 61, descriptorIndex := 62, attributes := #[] }, { accessFlags := 26, nameIndex := 65, descriptorIndex := 62, attributes := #[] }, { accessFlags := 24, nameIndex := 430, descriptorIndex := 62, attributes := #[] }, { accessFlags := 4120, nameIndex := 46, descriptorIndex := 47, attributes := #[] }])
  fields := #[{ name := "HI_BYTE_SHIFT", type := .int, accessFlags := 26, slot := 0, constantValue := 0 }, { name := "LO_BYTE_SHIFT", type := .int, accessFlags := 26, slot := 1, constantValue := 0 }, { name := "MAX_LENGTH", type := .int, accessFlags := 24, slot := 2, constantValue := 0 }, { name := "$assertionsDisabled", type := .boolean, accessFlags := 4120, slot := 3, constantValue := 0 }]
  methods := #[k18m0, k18m1, k18m2, k18m3]
  instanceTypes := #[]
  staticTypes := #[.int, .int, .int, .boolean]
  resolved := Array.replicate 635 none
  statics := none }

def pool19 : Array CpInfo := pool [(9, u "<init>"), (6, .class_ 18), (1, u "java/lang/Object"), (0, u "()V"), (1, .class_ 23), (1, u "jdk/internal/util/ArraysSupport"), (0, u "LOG2_ARRAY_LONG_INDEX_SCALE"), (0, u "I"), (2, u "U"), (0, u "Ljdk/internal/misc/Unsafe;"), (8, u "BIG_ENDIAN"), (0, u "Z"), (8, u "LOG2_BYTE_BIT_SIZE"), (4, u "LOG2_ARRAY_INT_INDEX_SCALE"), (54, u "JLA"), (0, u "Ljdk/internal/access/JavaLangAccess;"), (11, u "LOG2_ARRAY_BOOLEAN_INDEX_SCALE"), (9, u "LOG2_ARRAY_BYTE_INDEX_SCALE"), (5, u "LOG2_ARRAY_CHAR_INDEX_SCALE"), (5, u "LOG2_ARRAY_SHORT_INDEX_SCALE"), (18, u "LOG2_ARRAY_FLOAT_INDEX_SCALE"), (24, u "LOG2_ARRAY_DOUBLE_INDEX_SCALE"), (89, u "T_BOOLEAN"), (2, u "T_CHAR"), (1, u "T_FLOAT"), (1, u "T_DOUBLE"), (1, u "T_BYTE"), (1, u "T_SHORT"), (1, u "T_INT"), (1, u "T_LONG"), (1, u "SOFT_MAX_ARRAY_LENGTH")] 83

def k19m0 : Method := { name := "<init>", desc := "()V", sig := { parameters := [], returnType := none }, accessFlags := 2, code := none }
/-- jdk/internal/util/ArraysSupport -/
def k19 : Class := { plain "jdk/internal/util/ArraysSupport" (some 0) with
  accessFlags := 33
  interfaces := #[]
  cf := some (fileOf pool19 21 #[] #[{ accessFlags := 2, nameIndex := 9, descriptorIndex := 19, attributes := #[] }] 33 16 #[] #[{ accessFlags := 24, nameIndex := 28, descriptorIndex := 29, attributes := #[] }, { accessFlags := 26, nameIndex := 38, descriptorIndex := 39, attributes := #[] }, { accessFlags := 25, nameIndex := 121, descriptorIndex := 25, attributes := #[] }, { accessFlags := 25, nameIndex := 131, descriptorIndex := 25, attributes := #[] }, { accessFlags := 25, nameIndex := 137, descriptorIndex := 25, attributes := #[] }, { accessFlags := 25, nameIndex := 143, descriptorIndex := 25, attributes := #[] }, { accessFlags := 25, nameIndex := 53, descriptorIndex := 25, attributes := #[] }, { accessFlags := 25, nameIndex := 24, descriptorIndex := 25, attributes := #[] }, { accessFlags := 25, nameIndex := 162, descriptorIndex := 25, attributes := #[] }, { accessFlags := 25, nameIndex := 187, descriptorIndex := 25, attributes := #[] }, { accessFlags := 26, nameIndex := 48, descriptorIndex := 25, attributes := #[] }, { accessFlags := 25, nameIndex := 277, descriptorIndex := 25, attributes := #[] }, { accessFlags := 25, nameIndex := 280, descriptorIndex := 25, attributes := #[] }, { accessFlags := 25, nameIndex := 282, descriptorIndex := 25, attributes := #[] }, { accessFlags := 25, nameIndex := 284, descriptorIndex := 25, attributes := #[] }, { accessFlags := 25, nameIndex := 286, descriptorIndex := 25, attributes := #[] }, { accessFlags := 25, nameIndex := 288, descriptorIndex := 25, attributes := #[] }, { accessFlags := 25, nameIndex := 290, descriptorIndex := 25, attributes := #[] }, { accessFlags := 25, nameIndex := 292, descriptorIndex := 25, attributes := #[] }, { accessFlags := 26, nameIndex := 108, descriptorIndex := 109, attributes := #[] }, { accessFlags := 25, nameIndex := 294, descriptorIndex := 25, attributes := #[] }])
  fields := #[{ name := "U", type := (.object "jdk/internal/misc/Unsafe"), accessFlags := 24, slot := 0, constantValue := 0 }, { name := "BIG_ENDIAN", type := .boolean, accessFlags := 26, slot := 1, constantValue := 0 }, { name := "LOG2_ARRAY_BOOLEAN_INDEX_SCALE", type := .int, accessFlags := 25, slot := 2, constantValue := 0 }, { name := "LOG2_ARRAY_BYTE_INDEX_SCALE", type := .int, accessFlags := 25, slot := 3, constantValue := 0 }, { name := "LOG2_ARRAY_CHAR_INDEX_SCALE", type := .int, accessFlags := 25, slot := 4, constantValue := 0 }, { name := "LOG2_ARRAY_SHORT_INDEX_SCALE", type := .int, accessFlags := 25, slot := 5, constantValue := 0 }, { name := "LOG2_ARRAY_INT_INDEX_SCALE", type := .int, accessFlags := 25, slot := 6, constantValue := 0 }, { name := "LOG2_ARRAY_LONG_INDEX_SCALE", type := .int, accessFlags := 25, slot := 7, constantValue := 0 }, { name := "LOG2_ARRAY_FLOAT_INDEX_SCALE", type := .int, accessFlags := 25, slot := 8, constantValue := 0 }, { name := "LOG2_ARRAY_DOUBLE_INDEX_SCALE", type := .int, accessFlags := 25, slot := 9, constantValue := 0 }, { name := "LOG2_BYTE_BIT_SIZE", type := .int, accessFlags := 26, slot := 10, constantValue := 0 }, { name := "T_BOOLEAN", type := .int, accessFlags := 25, slot := 11, constantValue := 0 }, { name := "T_CHAR", type := .int, accessFlags := 25, slot := 12, constantValue := 0 }, { name := "T_FLOAT", type := .int, accessFlags := 25, slot := 13, constantValue := 0 }, { name := "T_DOUBLE", type := .int, accessFlags := 25, slot := 14, constantValue := 0 }, { name := "T_BYTE", type := .int, accessFlags := 25, slot := 15, constantValue := 0 }, { name := "T_SHORT", type := .int, accessFlags := 25, slot := 16, constantValue := 0 }, { name := "T_INT", type := .int, accessFlags := 25, slot := 17, constantValue := 0 }, { name := "T_LONG", type := .int, accessFlags := 25, slot := 18, constantValue := 0 }, { name := "JLA", type := (.object "jdk/internal/access/JavaLangAccess"), accessFlags := 26, slot := 19, constantValue := 0 }, { name := "SOFT_MAX_ARRAY_LENGTH", type := .int, accessFlags := 25, slot := 20, constantValue := 0 }]
  methods := #[k19m0]
  instanceTypes := #[]
  staticTypes := #[(.object "jdk/internal/misc/Unsafe"), .boolean, .int, .int, .int, .int, .int, .int, .int, .int, .int, .int, .int, .int, .int, .int, .int, .int, .int, (.object "jdk/internal/access/JavaLangAccess"), .int]
  resolved := Array.replicate 378 none
  statics := none }

def pool20 : Array CpInfo := pool [(1, u "java/lang/Cloneable"), (0, .class_ 1), (0, u "java/lang/Object"), (0, .class_ 3)] 3

/-- java/lang/Cloneable -/
def k20 : Class := { plain "java/lang/Cloneable" (some 0) with
  accessFlags := 1537
  interfaces := #[]
  cf := some (fileOf pool20 2 #[] #[] 1537 4 #[] #[])
  fields := #[]
  methods := #[]
  instanceTypes := #[]
  staticTypes := #[]
  resolved := Array.replicate 8 none
  statics := none }

/-- the primitive byte -/
def k21 : Class := { plain "byte" none with kind := .primitive 'B', accessFlags := 0x411 }
/-- [B -/
def k22 : Class := { plain "[B" (some 0) with kind := .array 21 .byte, interfaces := #[20, 2], accessFlags := 1041 }

/-- the primitive char -/
def k23 : Class := { plain "char" none with kind := .primitive 'C', accessFlags := 0x411 }
/-- [C -/
def k24 : Class := { plain "[C" (some 0) with kind := .array 23 .char, interfaces := #[20, 2], accessFlags := 1041 }

def heap : Heap := #[{ cls := 7, slots := #[.long 0, .int 1, .null, .int 0, .null, .int 0, .int 0], vm := .statics 7 },
  { cls := 17, slots := #[.null, .null, .null], vm := .statics 17 }]
def classes : Array Class := #[k0, k1, k2, k3, k4, k5, k6, k7, k8, k9, k10, k11, k12, k13, k14, k15, k16, k17, k18, k19, k20, k21, k22, k23, k24]
def interned : List (Array UInt16 × Addr) := []
def slotsUsed : Nat := 10
def theMethod : MethodId := ⟨1, 1⟩
def args0 : Array Value := #[.int 5, .int 7, .int 6]
def aboutOver (below : List Frame) : State where
  vm := { classes := classes, interned := interned.toArray }
  heap := heap
  slotsUsed := slotsUsed
  threads := #[{ frames := .invoking theMethod args0 :: below }]
def below0 : List Frame := [.native { method := ⟨0, 0⟩, args := #[] }]
def about1 : State := aboutOver below0
def p0 : Program := .bare "" "" ""
def e0 : Env := launch0.env 0 0 0
theorem w_frames : about1.frames = Frame.invoking theMethod args0 :: below0 := rfl
set_option maxRecDepth 65536 in
theorem w_args : argsFit about1.vm theMethod args0 = true := by decide +kernel
set_option maxRecDepth 65536 in
theorem w_heap : heapFits about1 = true := by decide +kernel
set_option maxRecDepth 65536 in
theorem w_runnable : about1.curStatus? = some .runnable := by decide +kernel
set_option maxRecDepth 65536 in
theorem w_alone : about1.alone = true := by decide +kernel
set_option maxRecDepth 65536 in
theorem w_named : about1.methodNamed? x = some theMethod := by decide +kernel
set_option maxRecDepth 65536 in
theorem w_hears : about1.hears theMethod below0 = true := by decide +kernel
set_option maxRecDepth 65536 in
theorem w_ripe : about1.ripe theMethod args0 below0 = true := by decide +kernel
theorem w_running : about1.status = .running := rfl
set_option maxRecDepth 65536 in
theorem w_room : about1.hasRoom e0.platform room_1 = true :=
  launch0.hasRoom_least _ room_1 (by decide +kernel) (by decide +kernel) (by decide +kernel) (by decide +kernel) (by decide +kernel) (by decide +kernel)
theorem allAtoms_all (ts : List Jvm.Cond) (a : Array Jvm.Value) (st : Jvm.State) : (allAtoms ts).before a st = ts.all (fun c => c.before a st) := by
  induction ts with
  | nil => rfl
  | cons c t ih =>
    show (Jvm.Cond.and c (allAtoms t)).before a st = _
    rw [Jvm.Cond.before_and, ih, List.all_cons]
def words1 : List Jvm.Cond := Jvm.Cond.code x code maxLocals ret :: tables_1
/-- a 'code' word, met by the world's own term for the bytes: nothing is compared byte by byte -/
theorem code_word {y : MethodName} {bytes : ByteArray} {mx : Nat} {rt : Option FieldType} {a : Array Value} {s : State} {m : MethodId} {meth : Method} {c : Code} (h1 : s.methodNamed? y = some m) (h2 : s.vm.method? m = some meth) (h3 : meth.code = some c) (h4 : c.code = bytes)
    (h5 : (c.maxLocals == mx && c.exceptionTable.isEmpty && decide (c.maxStack ≤ mostOperands) && decide (meth.sig.returnType = rt) && !meth.locks && decide (parseMethodDescriptor y.desc = some meth.sig)) = true) : (Jvm.Cond.code y bytes mx rt).before a s = true := by
  simp only [Bool.and_eq_true, beq_iff_eq, Bool.not_eq_true', decide_eq_true_eq] at h5
  obtain ⟨⟨⟨⟨⟨g1, g2⟩, g3⟩, g4⟩, g5⟩, g6⟩ := h5
  simp [Cond.before, Cond.holds, Cond.value, h1, h2, h3, h4, g1, g2, g3, g4, g5, g6]
def isCode : Jvm.Cond → Bool
  | .code _ _ _ _ => true
  | _ => false
theorem all_split {L : List Jvm.Cond} {P : Jvm.Cond → Bool} (h1 : L.all (fun c => isCode c || P c) = true) (h2 : ∀ c ∈ L.filter isCode, P c = true) : L.all P = true := by
  refine List.all_eq_true.mpr fun c hc => ?_
  have h := List.all_eq_true.mp h1 c hc
  rcases Bool.eq_false_or_eq_true (isCode c) with hi | hi
  · exact h2 c (List.mem_filter.mpr ⟨hc, hi⟩)
  · simpa [hi] using h
set_option maxRecDepth 65536 in
theorem w_c0 : (Jvm.Cond.code x code maxLocals ret).before args0 about1 = true := code_word (m := ⟨1, 1⟩) (meth := k1m1) (c := k1c1) (by decide +kernel) rfl rfl rfl (by decide +kernel)
set_option maxRecDepth 65536 in
theorem w_c1 : (Jvm.Cond.code ({ cls := "com/example/ipomoea/ipomoea/store/JobKeyToStringPinLaw", name := "mk", desc := "(ICCC)Ljava/lang/String;" } : Jvm.MethodName) method_3_code (4 : Nat) (Option.some (Jvm.ClassFile.FieldType.object "java/lang/String"))).before args0 about1 = true := code_word (m := ⟨1, 2⟩) (meth := k1m2) (c := k1c2) (by decide +kernel) rfl rfl rfl (by decide +kernel)
set_option maxRecDepth 65536 in
theorem w_c2 : (Jvm.Cond.code ({ cls := "java/lang/String", name := "<init>", desc := "([C)V" } : Jvm.MethodName) jdk_42_method_3_code (2 : Nat) (Option.none : Option Jvm.ClassFile.FieldType)).before args0 about1 = true := code_word (m := ⟨7, 1⟩) (meth := k7m1) (c := k7c1) (by decide +kernel) rfl rfl rfl (by decide +kernel)
set_option maxRecDepth 65536 in
theorem w_c3 : (Jvm.Cond.code ({ cls := "java/lang/String", name := "<init>", desc := "([CIILjava/lang/Void;)V" } : Jvm.MethodName) jdk_42_method_149_code (6 : Nat) (Option.none : Option Jvm.ClassFile.FieldType)).before args0 about1 = true := code_word (m := ⟨7, 7⟩) (meth := k7m7) (c := k7c7) (by decide +kernel) rfl rfl rfl (by decide +kernel)
set_option maxRecDepth 65536 in
theorem w_c4 : (Jvm.Cond.code ({ cls := "java/lang/Object", name := "<init>", desc := "()V" } : Jvm.MethodName) object_method_1_code (1 : Nat) (Option.none : Option Jvm.ClassFile.FieldType)).before args0 about1 = true := code_word (m := ⟨0, 0⟩) (meth := k0m0) (c := k0c0) (by decide +kernel) rfl rfl rfl (by decide +kernel)
set_option maxRecDepth 65536 in
theorem w_c5 : (Jvm.Cond.code ({ cls := "com/example/ipomoea/ipomoea/store/JobKey", name := "<init>", desc := "(Ljava/lang/String;Ljava/lang/String;)V" } : Jvm.MethodName) prog_27_method_1_code (3 : Nat) (Option.none : Option Jvm.ClassFile.FieldType)).before args0 about1 = true := code_word (m := ⟨8, 0⟩) (meth := k8m0) (c := k8c0) (by decide +kernel) rfl rfl rfl (by decide +kernel)
set_option maxRecDepth 65536 in
theorem w_c6 : (Jvm.Cond.code ({ cls := "java/util/Objects", name := "requireNonNull", desc := "(Ljava/lang/Object;Ljava/lang/String;)Ljava/lang/Object;" } : Jvm.MethodName) jdk_31_method_11_code (2 : Nat) (Option.some (Jvm.ClassFile.FieldType.object "java/lang/Object"))).before args0 about1 = true := code_word (m := ⟨9, 1⟩) (meth := k9m1) (c := k9c1) (by decide +kernel) rfl rfl rfl (by decide +kernel)
set_option maxRecDepth 65536 in
theorem w_c7 : (Jvm.Cond.code ({ cls := "com/example/ipomoea/ipomoea/store/JobKey", name := "toString", desc := "()Ljava/lang/String;" } : Jvm.MethodName) prog_27_method_7_code (1 : Nat) (Option.some (Jvm.ClassFile.FieldType.object "java/lang/String"))).before args0 about1 = true := code_word (m := ⟨8, 1⟩) (meth := k8m1) (c := k8c1) (by decide +kernel) rfl rfl rfl (by decide +kernel)
set_option maxRecDepth 65536 in
theorem w_c8 : (Jvm.Cond.code ({ cls := "java/lang/StringBuilder", name := "<init>", desc := "()V" } : Jvm.MethodName) jdk_67_method_1_code (1 : Nat) (Option.none : Option Jvm.ClassFile.FieldType)).before args0 about1 = true := code_word (m := ⟨12, 0⟩) (meth := k12m0) (c := k12c0) (by decide +kernel) rfl rfl rfl (by decide +kernel)
set_option maxRecDepth 65536 in
theorem w_c9 : (Jvm.Cond.code ({ cls := "java/lang/AbstractStringBuilder", name := "<init>", desc := "(I)V" } : Jvm.MethodName) jdk_68_method_2_code (2 : Nat) (Option.none : Option Jvm.ClassFile.FieldType)).before args0 about1 = true := code_word (m := ⟨11, 1⟩) (meth := k11m1) (c := k11c1) (by decide +kernel) rfl rfl rfl (by decide +kernel)
set_option maxRecDepth 65536 in
theorem w_c10 : (Jvm.Cond.code ({ cls := "java/lang/StringBuilder", name := "append", desc := "(Ljava/lang/String;)Ljava/lang/StringBuilder;" } : Jvm.MethodName) jdk_67_method_7_code (2 : Nat) (Option.some (Jvm.ClassFile.FieldType.object "java/lang/StringBuilder"))).before args0 about1 = true := code_word (m := ⟨12, 1⟩) (meth := k12m1) (c := k12c1) (by decide +kernel) rfl rfl rfl (by decide +kernel)
set_option maxRecDepth 65536 in
theorem w_c11 : (Jvm.Cond.code ({ cls := "java/lang/AbstractStringBuilder", name := "append", desc := "(Ljava/lang/String;)Ljava/lang/AbstractStringBuilder;" } : Jvm.MethodName) jdk_68_method_22_code (3 : Nat) (Option.some (Jvm.ClassFile.FieldType.object "java/lang/AbstractStringBuilder"))).before args0 about1 = true := code_word (m := ⟨11, 4⟩) (meth := k11m4) (c := k11c4) (by decide +kernel) rfl rfl rfl (by decide +kernel)
set_option maxRecDepth 65536 in
theorem w_c12 : (Jvm.Cond.code ({ cls := "java/lang/String", name := "length", desc := "()I" } : Jvm.MethodName) jdk_42_method_54_code (1 : Nat) (Option.some Jvm.ClassFile.FieldType.int)).before args0 about1 = true := code_word (m := ⟨7, 3⟩) (meth := k7m3) (c := k7c3) (by decide +kernel) rfl rfl rfl (by decide +kernel)
set_option maxRecDepth 65536 in
theorem w_c13 : (Jvm.Cond.code ({ cls := "java/lang/String", name := "coder", desc := "()B" } : Jvm.MethodName) jdk_42_method_152_code (1 : Nat) (Option.some Jvm.ClassFile.FieldType.byte)).before args0 about1 = true := code_word (m := ⟨7, 10⟩) (meth := k7m10) (c := k7c10) (by decide +kernel) rfl rfl rfl (by decide +kernel)
set_option maxRecDepth 65536 in
theorem w_c14 : (Jvm.Cond.code ({ cls := "java/lang/AbstractStringBuilder", name := "ensureCapacityInternal", desc := "(I)V" } : Jvm.MethodName) jdk_68_method_9_code (3 : Nat) (Option.none : Option Jvm.ClassFile.FieldType)).before args0 about1 = true := code_word (m := ⟨11, 3⟩) (meth := k11m3) (c := k11c3) (by decide +kernel) rfl rfl rfl (by decide +kernel)
set_option maxRecDepth 65536 in
theorem w_c15 : (Jvm.Cond.code ({ cls := "java/lang/AbstractStringBuilder", name := "putStringAt", desc := "(ILjava/lang/String;)V" } : Jvm.MethodName) jdk_68_method_73_code (3 : Nat) (Option.none : Option Jvm.ClassFile.FieldType)).before args0 about1 = true := code_word (m := ⟨11, 8⟩) (meth := k11m8) (c := k11c8) (by decide +kernel) rfl rfl rfl (by decide +kernel)
set_option maxRecDepth 65536 in
theorem w_c16 : (Jvm.Cond.code ({ cls := "java/lang/AbstractStringBuilder", name := "inflateIfNeededFor", desc := "(Ljava/lang/String;)V" } : Jvm.MethodName) jdk_68_method_71_code (2 : Nat) (Option.none : Option Jvm.ClassFile.FieldType)).before args0 about1 = true := code_word (m := ⟨11, 7⟩) (meth := k11m7) (c := k11c7) (by decide +kernel) rfl rfl rfl (by decide +kernel)
set_option maxRecDepth 65536 in
theorem w_c17 : (Jvm.Cond.code ({ cls := "java/lang/String", name := "getBytes", desc := "([BIB)V" } : Jvm.MethodName) jdk_42_method_147_code (4 : Nat) (Option.none : Option Jvm.ClassFile.FieldType)).before args0 about1 = true := code_word (m := ⟨7, 6⟩) (meth := k7m6) (c := k7c6) (by decide +kernel) rfl rfl rfl (by decide +kernel)
set_option maxRecDepth 65536 in
theorem w_c18 : (Jvm.Cond.code ({ cls := "java/lang/StringBuilder", name := "toString", desc := "()Ljava/lang/String;" } : Jvm.MethodName) jdk_67_method_42_code (1 : Nat) (Option.some (Jvm.ClassFile.FieldType.object "java/lang/String"))).before args0 about1 = true := code_word (m := ⟨12, 2⟩) (meth := k12m2) (c := k12c2) (by decide +kernel) rfl rfl rfl (by decide +kernel)
set_option maxRecDepth 65536 in
theorem w_c19 : (Jvm.Cond.code ({ cls := "java/lang/String", name := "<init>", desc := "(Ljava/lang/StringBuilder;)V" } : Jvm.MethodName) jdk_42_method_53_code (2 : Nat) (Option.none : Option Jvm.ClassFile.FieldType)).before args0 about1 = true := code_word (m := ⟨7, 2⟩) (meth := k7m2) (c := k7c2) (by decide +kernel) rfl rfl rfl (by decide +kernel)
set_option maxRecDepth 65536 in
theorem w_c20 : (Jvm.Cond.code ({ cls := "java/lang/String", name := "<init>", desc := "(Ljava/lang/AbstractStringBuilder;Ljava/lang/Void;)V" } : Jvm.MethodName) jdk_42_method_150_code (5 : Nat) (Option.none : Option Jvm.ClassFile.FieldType)).before args0 about1 = true := code_word (m := ⟨7, 8⟩) (meth := k7m8) (c := k7c8) (by decide +kernel) rfl rfl rfl (by decide +kernel)
set_option maxRecDepth 65536 in
theorem w_c21 : (Jvm.Cond.code ({ cls := "java/lang/AbstractStringBuilder", name := "getValue", desc := "()[B" } : Jvm.MethodName) jdk_68_method_64_code (1 : Nat) (Option.some (Jvm.ClassFile.FieldType.array Jvm.ClassFile.FieldType.byte))).before args0 about1 = true := code_word (m := ⟨11, 5⟩) (meth := k11m5) (c := k11c5) (by decide +kernel) rfl rfl rfl (by decide +kernel)
set_option maxRecDepth 65536 in
theorem w_c22 : (Jvm.Cond.code ({ cls := "java/lang/StringBuilder", name := "length", desc := "()I" } : Jvm.MethodName) jdk_67_method_93_code (1 : Nat) (Option.some Jvm.ClassFile.FieldType.int)).before args0 about1 = true := code_word (m := ⟨12, 3⟩) (meth := k12m3) (c := k12c3) (by decide +kernel) rfl rfl rfl (by decide +kernel)
set_option maxRecDepth 65536 in
theorem w_c23 : (Jvm.Cond.code ({ cls := "java/lang/AbstractStringBuilder", name := "length", desc := "()I" } : Jvm.MethodName) jdk_68_method_6_code (1 : Nat) (Option.some Jvm.ClassFile.FieldType.int)).before args0 about1 = true := code_word (m := ⟨11, 2⟩) (meth := k11m2) (c := k11c2) (by decide +kernel) rfl rfl rfl (by decide +kernel)
set_option maxRecDepth 65536 in
theorem w_c24 : (Jvm.Cond.code ({ cls := "java/lang/AbstractStringBuilder", name := "isLatin1", desc := "()Z" } : Jvm.MethodName) jdk_68_method_68_code (1 : Nat) (Option.some Jvm.ClassFile.FieldType.boolean)).before args0 about1 = true := code_word (m := ⟨11, 6⟩) (meth := k11m6) (c := k11c6) (by decide +kernel) rfl rfl rfl (by decide +kernel)
set_option maxRecDepth 65536 in
theorem w_c25 : (Jvm.Cond.code ({ cls := "java/util/Arrays", name := "copyOfRange", desc := "([BII)[B" } : Jvm.MethodName) jdk_65_method_132_code (3 : Nat) (Option.some (Jvm.ClassFile.FieldType.array Jvm.ClassFile.FieldType.byte))).before args0 about1 = true := code_word (m := ⟨14, 2⟩) (meth := k14m2) (c := k14c2) (by decide +kernel) rfl rfl rfl (by decide +kernel)
set_option maxRecDepth 65536 in
theorem w_c26 : (Jvm.Cond.code ({ cls := "java/util/Arrays", name := "copyOfRangeByte", desc := "([BII)[B" } : Jvm.MethodName) jdk_65_method_133_code (5 : Nat) (Option.some (Jvm.ClassFile.FieldType.array Jvm.ClassFile.FieldType.byte))).before args0 about1 = true := code_word (m := ⟨14, 3⟩) (meth := k14m3) (c := k14c3) (by decide +kernel) rfl rfl rfl (by decide +kernel)
set_option maxRecDepth 65536 in
theorem w_c27 : (Jvm.Cond.code ({ cls := "java/util/Arrays", name := "checkLength", desc := "(II)V" } : Jvm.MethodName) jdk_65_method_131_code (2 : Nat) (Option.none : Option Jvm.ClassFile.FieldType)).before args0 about1 = true := code_word (m := ⟨14, 1⟩) (meth := k14m1) (c := k14c1) (by decide +kernel) rfl rfl rfl (by decide +kernel)
set_option maxRecDepth 65536 in
theorem w_c28 : (Jvm.Cond.code ({ cls := "java/lang/Math", name := "min", desc := "(II)I" } : Jvm.MethodName) jdk_29_method_69_code (2 : Nat) (Option.some Jvm.ClassFile.FieldType.int)).before args0 about1 = true := code_word (m := ⟨15, 1⟩) (meth := k15m1) (c := k15c1) (by decide +kernel) rfl rfl rfl (by decide +kernel)
set_option maxRecDepth 65536 in
theorem w_c29 : (Jvm.Cond.code ({ cls := "com/example/ipomoea/ipomoea/store/JobKeyToStringPinLaw", name := "at", desc := "(Ljava/lang/String;IIICCCCCC)Z" } : Jvm.MethodName) method_5_code (11 : Nat) (Option.some Jvm.ClassFile.FieldType.boolean)).before args0 about1 = true := code_word (m := ⟨1, 4⟩) (meth := k1m4) (c := k1c4) (by decide +kernel) rfl rfl rfl (by decide +kernel)
set_option maxRecDepth 65536 in
theorem w_c30 : (Jvm.Cond.code ({ cls := "java/lang/String", name := "charAt", desc := "(I)C" } : Jvm.MethodName) jdk_42_method_56_code (2 : Nat) (Option.some Jvm.ClassFile.FieldType.char)).before args0 about1 = true := code_word (m := ⟨7, 4⟩) (meth := k7m4) (c := k7c4) (by decide +kernel) rfl rfl rfl (by decide +kernel)
set_option maxRecDepth 65536 in
theorem w_c31 : (Jvm.Cond.code ({ cls := "java/lang/String", name := "isLatin1", desc := "()Z" } : Jvm.MethodName) jdk_42_method_154_code (1 : Nat) (Option.some Jvm.ClassFile.FieldType.boolean)).before args0 about1 = true := code_word (m := ⟨7, 11⟩) (meth := k7m11) (c := k7c11) (by decide +kernel) rfl rfl rfl (by decide +kernel)
set_option maxRecDepth 65536 in
theorem w_c32 : (Jvm.Cond.code ({ cls := "java/lang/StringLatin1", name := "charAt", desc := "([BI)C" } : Jvm.MethodName) jdk_43_method_2_code (2 : Nat) (Option.some Jvm.ClassFile.FieldType.char)).before args0 about1 = true := code_word (m := ⟨16, 1⟩) (meth := k16m1) (c := k16c1) (by decide +kernel) rfl rfl rfl (by decide +kernel)
set_option maxRecDepth 65536 in
theorem w_c33 : (Jvm.Cond.code ({ cls := "java/lang/String", name := "checkIndex", desc := "(II)V" } : Jvm.MethodName) jdk_42_method_155_code (2 : Nat) (Option.none : Option Jvm.ClassFile.FieldType)).before args0 about1 = true := code_word (m := ⟨7, 12⟩) (meth := k7m12) (c := k7c12) (by decide +kernel) rfl rfl rfl (by decide +kernel)
set_option maxRecDepth 65536 in
theorem w_c34 : (Jvm.Cond.code ({ cls := "jdk/internal/util/Preconditions", name := "checkIndex", desc := "(IILjava/util/function/BiFunction;)I" } : Jvm.MethodName) jdk_41_method_11_code (3 : Nat) (Option.some Jvm.ClassFile.FieldType.int)).before args0 about1 = true := code_word (m := ⟨17, 1⟩) (meth := k17m1) (c := k17c1) (by decide +kernel) rfl rfl rfl (by decide +kernel)
set_option maxRecDepth 65536 in
theorem w_c35 : (Jvm.Cond.code ({ cls := "java/lang/String", name := "valueOf", desc := "(C)Ljava/lang/String;" } : Jvm.MethodName) jdk_42_method_139_code (1 : Nat) (Option.some (Jvm.ClassFile.FieldType.object "java/lang/String"))).before args0 about1 = true := code_word (m := ⟨7, 5⟩) (meth := k7m5) (c := k7c5) (by decide +kernel) rfl rfl rfl (by decide +kernel)
set_option maxRecDepth 65536 in
theorem w_c36 : (Jvm.Cond.code ({ cls := "java/lang/StringLatin1", name := "canEncode", desc := "(C)Z" } : Jvm.MethodName) jdk_43_method_3_code (1 : Nat) (Option.some Jvm.ClassFile.FieldType.boolean)).before args0 about1 = true := code_word (m := ⟨16, 2⟩) (meth := k16m2) (c := k16c2) (by decide +kernel) rfl rfl rfl (by decide +kernel)
set_option maxRecDepth 65536 in
theorem w_c37 : (Jvm.Cond.code ({ cls := "java/lang/StringLatin1", name := "toBytes", desc := "(C)[B" } : Jvm.MethodName) jdk_43_method_46_code (1 : Nat) (Option.some (Jvm.ClassFile.FieldType.array Jvm.ClassFile.FieldType.byte))).before args0 about1 = true := code_word (m := ⟨16, 3⟩) (meth := k16m3) (c := k16c3) (by decide +kernel) rfl rfl rfl (by decide +kernel)
set_option maxRecDepth 65536 in
theorem w_c38 : (Jvm.Cond.code ({ cls := "java/lang/String", name := "<init>", desc := "([BB)V" } : Jvm.MethodName) jdk_42_method_151_code (3 : Nat) (Option.none : Option Jvm.ClassFile.FieldType)).before args0 about1 = true := code_word (m := ⟨7, 9⟩) (meth := k7m9) (c := k7c9) (by decide +kernel) rfl rfl rfl (by decide +kernel)
set_option maxRecDepth 65536 in
theorem w_c39 : (Jvm.Cond.code ({ cls := "com/example/ipomoea/ipomoea/store/JobKeyToStringPinLaw", name := "pick", desc := "(ICCC)C" } : Jvm.MethodName) method_4_code (4 : Nat) (Option.some Jvm.ClassFile.FieldType.char)).before args0 about1 = true := code_word (m := ⟨1, 3⟩) (meth := k1m3) (c := k1c3) (by decide +kernel) rfl rfl rfl (by decide +kernel)
set_option maxRecDepth 65536 in
theorem w_c40 : (Jvm.Cond.code ({ cls := "java/lang/StringUTF16", name := "compress", desc := "([CII)[B" } : Jvm.MethodName) jdk_52_method_16_code (6 : Nat) (Option.some (Jvm.ClassFile.FieldType.array Jvm.ClassFile.FieldType.byte))).before args0 about1 = true := code_word (m := ⟨18, 2⟩) (meth := k18m2) (c := k18c2) (by decide +kernel) rfl rfl rfl (by decide +kernel)
set_option maxRecDepth 65536 in
theorem w_c41 : (Jvm.Cond.code ({ cls := "java/lang/StringUTF16", name := "compress", desc := "([CI[BII)I" } : Jvm.MethodName) jdk_52_method_21_code (7 : Nat) (Option.some Jvm.ClassFile.FieldType.int)).before args0 about1 = true := code_word (m := ⟨18, 3⟩) (meth := k18m3) (c := k18c3) (by decide +kernel) rfl rfl rfl (by decide +kernel)
set_option maxRecDepth 65536 in
theorem w_c42 : (Jvm.Cond.code ({ cls := "java/lang/StringUTF16", name := "coderFromArrayLen", desc := "([BI)B" } : Jvm.MethodName) jdk_52_method_15_code (2 : Nat) (Option.some Jvm.ClassFile.FieldType.byte)).before args0 about1 = true := code_word (m := ⟨18, 1⟩) (meth := k18m1) (c := k18c1) (by decide +kernel) rfl rfl rfl (by decide +kernel)
def codes1 : List Jvm.Cond := [Jvm.Cond.code x code maxLocals ret, Jvm.Cond.code ({ cls := "com/example/ipomoea/ipomoea/store/JobKeyToStringPinLaw", name := "mk", desc := "(ICCC)Ljava/lang/String;" } : Jvm.MethodName) method_3_code (4 : Nat) (Option.some (Jvm.ClassFile.FieldType.object "java/lang/String")), Jvm.Cond.code ({ cls := "java/lang/String", name := "<init>", desc := "([C)V" } : Jvm.MethodName) jdk_42_method_3_code (2 : Nat) (Option.none : Option Jvm.ClassFile.FieldType), Jvm.Cond.code ({ cls := "java/lang/String", name := "<init>", desc := "([CIILjava/lang/Void;)V" } : Jvm.MethodName) jdk_42_method_149_code (6 : Nat) (Option.none : Option Jvm.ClassFile.FieldType), Jvm.Cond.code ({ cls := "java/lang/Object", name := "<init>", desc := "()V" } : Jvm.MethodName) object_method_1_code (1 : Nat) (Option.none : Option Jvm.ClassFile.FieldType), Jvm.Cond.code ({ cls := "com/example/ipomoea/ipomoea/store/JobKey", name := "<init>", desc := "(Ljava/lang/String;Ljava/lang/String;)V" } : Jvm.MethodName) prog_27_method_1_code (3 : Nat) (Option.none : Option Jvm.ClassFile.FieldType), Jvm.Cond.code ({ cls := "java/util/Objects", name := "requireNonNull", desc := "(Ljava/lang/Object;Ljava/lang/String;)Ljava/lang/Object;" } : Jvm.MethodName) jdk_31_method_11_code (2 : Nat) (Option.some (Jvm.ClassFile.FieldType.object "java/lang/Object")), Jvm.Cond.code ({ cls := "com/example/ipomoea/ipomoea/store/JobKey", name := "toString", desc := "()Ljava/lang/String;" } : Jvm.MethodName) prog_27_method_7_code (1 : Nat) (Option.some (Jvm.ClassFile.FieldType.object "java/lang/String")), Jvm.Cond.code ({ cls := "java/lang/StringBuilder", name := "<init>", desc := "()V" } : Jvm.MethodName) jdk_67_method_1_code (1 : Nat) (Option.none : Option Jvm.ClassFile.FieldType), Jvm.Cond.code ({ cls := "java/lang/AbstractStringBuilder", name := "<init>", desc := "(I)V" } : Jvm.MethodName) jdk_68_method_2_code (2 : Nat) (Option.none : Option Jvm.ClassFile.FieldType), Jvm.Cond.code ({ cls := "java/lang/StringBuilder", name := "append", desc := "(Ljava/lang/String;)Ljava/lang/StringBuilder;" } : Jvm.MethodName) jdk_67_method_7_code (2 : Nat) (Option.some (Jvm.ClassFile.FieldType.object "java/lang/StringBuilder")), Jvm.Cond.code ({ cls := "java/lang/AbstractStringBuilder", name := "append", desc := "(Ljava/lang/String;)Ljava/lang/AbstractStringBuilder;" } : Jvm.MethodName) jdk_68_method_22_code (3 : Nat) (Option.some (Jvm.ClassFile.FieldType.object "java/lang/AbstractStringBuilder")), Jvm.Cond.code ({ cls := "java/lang/String", name := "length", desc := "()I" } : Jvm.MethodName) jdk_42_method_54_code (1 : Nat) (Option.some Jvm.ClassFile.FieldType.int), Jvm.Cond.code ({ cls := "java/lang/String", name := "coder", desc := "()B" } : Jvm.MethodName) jdk_42_method_152_code (1 : Nat) (Option.some Jvm.ClassFile.FieldType.byte), Jvm.Cond.code ({ cls := "java/lang/AbstractStringBuilder", name := "ensureCapacityInternal", desc := "(I)V" } : Jvm.MethodName) jdk_68_method_9_code (3 : Nat) (Option.none : Option Jvm.ClassFile.FieldType), Jvm.Cond.code ({ cls := "java/lang/AbstractStringBuilder", name := "putStringAt", desc := "(ILjava/lang/String;)V" } : Jvm.MethodName) jdk_68_method_73_code (3 : Nat) (Option.none : Option Jvm.ClassFile.FieldType), Jvm.Cond.code ({ cls := "java/lang/AbstractStringBuilder", name := "inflateIfNeededFor", desc := "(Ljava/lang/String;)V" } : Jvm.MethodName) jdk_68_method_71_code (2 : Nat) (Option.none : Option Jvm.ClassFile.FieldType), Jvm.Cond.code ({ cls := "java/lang/String", name := "getBytes", desc := "([BIB)V" } : Jvm.MethodName) jdk_42_method_147_code (4 : Nat) (Option.none : Option Jvm.ClassFile.FieldType), Jvm.Cond.code ({ cls := "java/lang/StringBuilder", name := "toString", desc := "()Ljava/lang/String;" } : Jvm.MethodName) jdk_67_method_42_code (1 : Nat) (Option.some (Jvm.ClassFile.FieldType.object "java/lang/String")), Jvm.Cond.code ({ cls := "java/lang/String", name := "<init>", desc := "(Ljava/lang/StringBuilder;)V" } : Jvm.MethodName) jdk_42_method_53_code (2 : Nat) (Option.none : Option Jvm.ClassFile.FieldType), Jvm.Cond.code ({ cls := "java/lang/String", name := "<init>", desc := "(Ljava/lang/AbstractStringBuilder;Ljava/lang/Void;)V" } : Jvm.MethodName) jdk_42_method_150_code (5 : Nat) (Option.none : Option Jvm.ClassFile.FieldType), Jvm.Cond.code ({ cls := "java/lang/AbstractStringBuilder", name := "getValue", desc := "()[B" } : Jvm.MethodName) jdk_68_method_64_code (1 : Nat) (Option.some (Jvm.ClassFile.FieldType.array Jvm.ClassFile.FieldType.byte)), Jvm.Cond.code ({ cls := "java/lang/StringBuilder", name := "length", desc := "()I" } : Jvm.MethodName) jdk_67_method_93_code (1 : Nat) (Option.some Jvm.ClassFile.FieldType.int), Jvm.Cond.code ({ cls := "java/lang/AbstractStringBuilder", name := "length", desc := "()I" } : Jvm.MethodName) jdk_68_method_6_code (1 : Nat) (Option.some Jvm.ClassFile.FieldType.int), Jvm.Cond.code ({ cls := "java/lang/AbstractStringBuilder", name := "isLatin1", desc := "()Z" } : Jvm.MethodName) jdk_68_method_68_code (1 : Nat) (Option.some Jvm.ClassFile.FieldType.boolean), Jvm.Cond.code ({ cls := "java/util/Arrays", name := "copyOfRange", desc := "([BII)[B" } : Jvm.MethodName) jdk_65_method_132_code (3 : Nat) (Option.some (Jvm.ClassFile.FieldType.array Jvm.ClassFile.FieldType.byte)), Jvm.Cond.code ({ cls := "java/util/Arrays", name := "copyOfRangeByte", desc := "([BII)[B" } : Jvm.MethodName) jdk_65_method_133_code (5 : Nat) (Option.some (Jvm.ClassFile.FieldType.array Jvm.ClassFile.FieldType.byte)), Jvm.Cond.code ({ cls := "java/util/Arrays", name := "checkLength", desc := "(II)V" } : Jvm.MethodName) jdk_65_method_131_code (2 : Nat) (Option.none : Option Jvm.ClassFile.FieldType), Jvm.Cond.code ({ cls := "java/lang/Math", name := "min", desc := "(II)I" } : Jvm.MethodName) jdk_29_method_69_code (2 : Nat) (Option.some Jvm.ClassFile.FieldType.int), Jvm.Cond.code ({ cls := "com/example/ipomoea/ipomoea/store/JobKeyToStringPinLaw", name := "at", desc := "(Ljava/lang/String;IIICCCCCC)Z" } : Jvm.MethodName) method_5_code (11 : Nat) (Option.some Jvm.ClassFile.FieldType.boolean), Jvm.Cond.code ({ cls := "java/lang/String", name := "charAt", desc := "(I)C" } : Jvm.MethodName) jdk_42_method_56_code (2 : Nat) (Option.some Jvm.ClassFile.FieldType.char), Jvm.Cond.code ({ cls := "java/lang/String", name := "isLatin1", desc := "()Z" } : Jvm.MethodName) jdk_42_method_154_code (1 : Nat) (Option.some Jvm.ClassFile.FieldType.boolean), Jvm.Cond.code ({ cls := "java/lang/StringLatin1", name := "charAt", desc := "([BI)C" } : Jvm.MethodName) jdk_43_method_2_code (2 : Nat) (Option.some Jvm.ClassFile.FieldType.char), Jvm.Cond.code ({ cls := "java/lang/String", name := "checkIndex", desc := "(II)V" } : Jvm.MethodName) jdk_42_method_155_code (2 : Nat) (Option.none : Option Jvm.ClassFile.FieldType), Jvm.Cond.code ({ cls := "jdk/internal/util/Preconditions", name := "checkIndex", desc := "(IILjava/util/function/BiFunction;)I" } : Jvm.MethodName) jdk_41_method_11_code (3 : Nat) (Option.some Jvm.ClassFile.FieldType.int), Jvm.Cond.code ({ cls := "java/lang/String", name := "valueOf", desc := "(C)Ljava/lang/String;" } : Jvm.MethodName) jdk_42_method_139_code (1 : Nat) (Option.some (Jvm.ClassFile.FieldType.object "java/lang/String")), Jvm.Cond.code ({ cls := "java/lang/StringLatin1", name := "canEncode", desc := "(C)Z" } : Jvm.MethodName) jdk_43_method_3_code (1 : Nat) (Option.some Jvm.ClassFile.FieldType.boolean), Jvm.Cond.code ({ cls := "java/lang/StringLatin1", name := "toBytes", desc := "(C)[B" } : Jvm.MethodName) jdk_43_method_46_code (1 : Nat) (Option.some (Jvm.ClassFile.FieldType.array Jvm.ClassFile.FieldType.byte)), Jvm.Cond.code ({ cls := "java/lang/String", name := "<init>", desc := "([BB)V" } : Jvm.MethodName) jdk_42_method_151_code (3 : Nat) (Option.none : Option Jvm.ClassFile.FieldType), Jvm.Cond.code ({ cls := "com/example/ipomoea/ipomoea/store/JobKeyToStringPinLaw", name := "pick", desc := "(ICCC)C" } : Jvm.MethodName) method_4_code (4 : Nat) (Option.some Jvm.ClassFile.FieldType.char), Jvm.Cond.code ({ cls := "java/lang/StringUTF16", name := "compress", desc := "([CII)[B" } : Jvm.MethodName) jdk_52_method_16_code (6 : Nat) (Option.some (Jvm.ClassFile.FieldType.array Jvm.ClassFile.FieldType.byte)), Jvm.Cond.code ({ cls := "java/lang/StringUTF16", name := "compress", desc := "([CI[BII)I" } : Jvm.MethodName) jdk_52_method_21_code (7 : Nat) (Option.some Jvm.ClassFile.FieldType.int), Jvm.Cond.code ({ cls := "java/lang/StringUTF16", name := "coderFromArrayLen", desc := "([BI)B" } : Jvm.MethodName) jdk_52_method_15_code (2 : Nat) (Option.some Jvm.ClassFile.FieldType.byte)]
set_option maxRecDepth 65536 in
theorem codes_eq : words1.filter isCode = codes1 := rfl
theorem w_codes : ∀ c ∈ words1.filter isCode, c.before args0 about1 = true := by
  rw [codes_eq]
  intro c hc
  simp only [codes1, List.mem_cons, List.not_mem_nil, or_false] at hc
  rcases hc with rfl | rfl | rfl | rfl | rfl | rfl | rfl | rfl | rfl | rfl | rfl | rfl | rfl | rfl | rfl | rfl | rfl | rfl | rfl | rfl | rfl | rfl | rfl | rfl | rfl | rfl | rfl | rfl | rfl | rfl | rfl | rfl | rfl | rfl | rfl | rfl | rfl | rfl | rfl | rfl | rfl | rfl | rfl
  · exact w_c0
  · exact w_c1
  · exact w_c2
  · exact w_c3
  · exact w_c4
  · exact w_c5
  · exact w_c6
  · exact w_c7
  · exact w_c8
  · exact w_c9
  · exact w_c10
  · exact w_c11
  · exact w_c12
  · exact w_c13
  · exact w_c14
  · exact w_c15
  · exact w_c16
  · exact w_c17
  · exact w_c18
  · exact w_c19
  · exact w_c20
  · exact w_c21
  · exact w_c22
  · exact w_c23
  · exact w_c24
  · exact w_c25
  · exact w_c26
  · exact w_c27
  · exact w_c28
  · exact w_c29
  · exact w_c30
  · exact w_c31
  · exact w_c32
  · exact w_c33
  · exact w_c34
  · exact w_c35
  · exact w_c36
  · exact w_c37
  · exact w_c38
  · exact w_c39
  · exact w_c40
  · exact w_c41
  · exact w_c42
set_option maxRecDepth 65536 in
theorem w_t1 : (words1.take 24).all (fun c => isCode c || c.before args0 about1) = true := by decide +kernel
set_option maxRecDepth 65536 in
theorem w_t2 : ((words1.drop 24).take 24).all (fun c => isCode c || c.before args0 about1) = true := by decide +kernel
set_option maxRecDepth 65536 in
theorem w_t3 : (((words1.drop 24).drop 24).take 24).all (fun c => isCode c || c.before args0 about1) = true := by decide +kernel
set_option maxRecDepth 65536 in
theorem w_t4 : ((((words1.drop 24).drop 24).drop 24).take 24).all (fun c => isCode c || c.before args0 about1) = true := by decide +kernel
set_option maxRecDepth 65536 in
theorem w_t5 : (((((words1.drop 24).drop 24).drop 24).drop 24).take 24).all (fun c => isCode c || c.before args0 about1) = true := by decide +kernel
set_option maxRecDepth 65536 in
theorem w_t6 : ((((((words1.drop 24).drop 24).drop 24).drop 24).drop 24).take 24).all (fun c => isCode c || c.before args0 about1) = true := by decide +kernel
set_option maxRecDepth 65536 in
theorem w_t7 : (((((((words1.drop 24).drop 24).drop 24).drop 24).drop 24).drop 24).take 24).all (fun c => isCode c || c.before args0 about1) = true := by decide +kernel
set_option maxRecDepth 65536 in
theorem w_t8 : ((((((((words1.drop 24).drop 24).drop 24).drop 24).drop 24).drop 24).drop 24).take 24).all (fun c => isCode c || c.before args0 about1) = true := by decide +kernel
set_option maxRecDepth 65536 in
theorem w_t9 : ((((((((words1.drop 24).drop 24).drop 24).drop 24).drop 24).drop 24).drop 24).drop 24).all (fun c => isCode c || c.before args0 about1) = true := by decide +kernel
theorem w_tables : (allAtoms (Jvm.Cond.code x code maxLocals ret :: tables_1)).before args0 about1 = true := by
  rw [allAtoms_all]
  show words1.all (fun c => c.before args0 about1) = true
  refine all_split ?_ w_codes
  rw [← List.take_append_drop 24 words1, List.all_append, w_t1, ← List.take_append_drop 24 (words1.drop 24), List.all_append, w_t2, ← List.take_append_drop 24 ((words1.drop 24).drop 24), List.all_append, w_t3, ← List.take_append_drop 24 (((words1.drop 24).drop 24).drop 24), List.all_append, w_t4, ← List.take_append_drop 24 ((((words1.drop 24).drop 24).drop 24).drop 24), List.all_append, w_t5, ← List.take_append_drop 24 (((((words1.drop 24).drop 24).drop 24).drop 24).drop 24), List.all_append, w_t6, ← List.take_append_drop 24 ((((((words1.drop 24).drop 24).drop 24).drop 24).drop 24).drop 24), List.all_append, w_t7, ← List.take_append_drop 24 (((((((words1.drop 24).drop 24).drop 24).drop 24).drop 24).drop 24).drop 24), List.all_append, w_t8, w_t9]
  rfl
set_option maxRecDepth 65536 in
theorem w_rest : rest_1_c.before args0 about1 = true := by decide +kernel
set_option maxRecDepth 65536 in
theorem w_case : (Jvm.Cond.and given_1 narrow_1).before args0 about1 = true := by decide +kernel
set_option maxRecDepth 65536 in
theorem w_consts : constsHeld consts_1 about1 := Jvm.Lit.constsHeldB_iff.mp (by decide +kernel)
theorem w_applies : (headSpec (Jvm.Cond.code x code maxLocals ret :: tables_1) room_1).applies x e0.platform about1 = true :=
  (Spec.applies_iff w_frames).mpr ⟨w_running, w_runnable, w_alone, w_named, w_hears, w_ripe, w_room, w_tables⟩
theorem atStart : AtStart classFile x code maxLocals ret World_1 tables_1 room_1 Calls_1 rest_1 Pre_1 launch0 p0 e0 about1 theMethod args0 below0 :=
  ⟨lists_1, trivial, launch0.admits_env _ _ _, launch0.least_env, fairChoices_fair.cas, fairChoices_fair.clock, w_frames, w_args, w_heap, w_applies, ⟨w_consts, trivial⟩, w_rest, w_case⟩
end start1
theorem witness_1 : WitnessClaimed_1 := ⟨start1.p0, start1.e0, start1.about1, start1.theMethod, start1.args0, start1.below0, start1.atStart⟩
end Jvm.Pilot.@@N@@
