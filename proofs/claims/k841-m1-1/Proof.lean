import JvmDerived
import JvmDerived.Pilot.@@N@@Statement
import JvmDerived.Pilot.@@N@@Code
set_option linter.unusedVariables false
set_option linter.unusedSimpArgs false
namespace Jvm.RoadKit
open Sem ClassFile Op Lib Jvm.Stand Jvm.Free Jvm.LawKit
section New
variable {p : Program} {l : Launch} {e : Env} {R : Room} {s : State} {m : MethodId} {args : Array Value} {below : List Frame} {meth : Method} {c : Code} {T : State} {locs : List Loc} {cells slots : Nat}
theorem retI (X : Stand p l e R s m args below meth c T locs cells slots) (hx : p.tables.exec = Jvm.exec) {pc : Nat} {Ls : Array Slot} {z : Int32} {rest : List Value} (hret : meth.sig.returnType = some .int) (hd : decode c.code pc = .ok (.ireturn, 1)) {fs : List Frame}
    (hl : ∀ (f : JFrame) (acts : List Action), f.method = m → f.locked = none → f.entered = [] → (doReturn e (T.setTop f) acts (some (.int z))).1 = T.setFrames fs) : Steps p.tables e below (T.setTop (mkF m pc Ls (.int z :: rest))) (T.setFrames fs) := by
  have hm' : T.vm.method? m = some meth := X.method'
  have hn : narrow .int (.int z) = .int z := rfl
  show Steps p.tables e below (T.setTop { method := m, pc := pc, locals := Ls, stack := _ :: rest, locked := none }) _
  jvm_step X.here [X.here.top, hx, hd, hm', hret, hn]
  first | (intro acts; rw [hl _ acts rfl rfl rfl]) | rw [hl _ _ rfl rfl rfl]
  exact Steps.refl _
end New
end Jvm.RoadKit
/- laws to paste: Road.backV (cut by pick.py; bodies as the Statement names them) -/
namespace Jvm.Pilot.@@N@@
namespace StrChars
open Jvm Sem ClassFile Op Lib Jvm.Stand Jvm.Free.XT Jvm.Free.ALB Jvm.Free.JM Jvm.Free
open Jvm.Lib.Cold (StaticIs)
/-- a char array whose places are chars -/
def Ch (a : Addr) (A : Cell) (U : State) : Prop := Arr .char a A U ∧ Typed .char A
theorem Ch.mv {a : Addr} {A : Cell} {U U' : State} (h : Ch a A U) (hal : U.vm.Alike U'.vm) (hh : U'.heap = U.heap) : Ch a A U' := ⟨h.1.mv hal hh, h.2⟩
theorem Ch.keep {a : Addr} {A : Cell} {U U' : State} (h : Ch a A U) (hal : U.vm.Alike U'.vm) (hk : U'.heap[a]? = some A) : Ch a A U' := ⟨h.1.keep hal hk, h.2⟩
/-- what place i of a char[]'s cell holds -/
def cv (A : Cell) (i : Nat) : Int32 := match A.slots[i]? with | some (.int x) => x | _ => 0
theorem Ch.get {a : Addr} {A : Cell} {U : State} (h : Ch a A U) {i : Nat} (hi : i < A.slots.size) : A.slots[i]? = some (.int (cv A i)) := by
  have e := Array.getElem?_eq_getElem hi
  have f := h.2 i _ e
  unfold cv; rw [e]
  generalize A.slots[i] = v at f
  cases v <;> simp [fits] at f ⊢
/-- the byte that i2b leaves of a char -/
def lo8 (x : Int32) : Int32 := x.toInt8.toInt32
theorem fits_lo8 (y : Int32) : fits .byte (.int (lo8 y)) = true := by
  have h1 := y.toInt8.le_toInt
  have h2 := y.toInt8.toInt_lt
  simp only [lo8, fits, Bool.and_eq_true, decide_eq_true_eq, Int32.le_iff_toInt_le, Int8.toInt_toInt32, show (-128 : Int32).toInt = -128 from by decide, show (127 : Int32).toInt = 127 from by decide]
  omega
/-- A' is A but that each place j of lo .. hi - 1 holds f j -/
def Laid (A A' : Cell) (lo hi : Nat) (f : Nat → Value) : Prop := A'.cls = A.cls ∧ A'.vm = A.vm ∧ A'.slots.size = A.slots.size ∧ ∀ i, A'.slots[i]? = if lo ≤ i ∧ i < hi then some (f i) else A.slots[i]?
theorem Laid.zero (A : Cell) (lo : Nat) (f : Nat → Value) : Laid A A lo (lo + 0) f := ⟨rfl, rfl, rfl, fun i => by rw [if_neg (by omega)]⟩
theorem Laid.step {A Ak : Cell} {lo k : Nat} {f : Nat → Value} {v : Value} (h : Laid A Ak lo k f) (hlo : lo ≤ k) (hk : k < Ak.slots.size) (hv : v = f k) : Laid A (Ak.setSlot k v) lo (k + 1) f := by
  refine ⟨h.1, h.2.1, by simpa [Cell.setSlot] using h.2.2.1, fun i => ?_⟩
  by_cases e : k = i
  · subst e; rw [Cell.slots_setSlot_self v hk, if_pos (by omega), hv]
  · rw [Cell.slots_setSlot_ne v e, h.2.2.2 i]
    by_cases q : lo ≤ i ∧ i < k
    · rw [if_pos q, if_pos (by omega)]
    · rw [if_neg q, if_neg (by omega)]
def U16 : String := "java/lang/StringUTF16"
namespace Cmp5
def yN : MethodName := ⟨"java/lang/StringUTF16", "compress", "([CI[BII)I"⟩
abbrev yB : ByteArray := jdk_52_method_21_code
theorem d0 : decode yB 0 = .ok (.iconst 0, 1) := by decide +kernel
theorem d1 : decode yB 1 = .ok (.istore 5, 2) := by decide +kernel
theorem d3 : decode yB 3 = .ok (.iload 5, 2) := by decide +kernel
theorem d5 : decode yB 5 = .ok (.iload 4, 2) := by decide +kernel
theorem d7 : decode yB 7 = .ok (.if_icmp (.ge) 37, 3) := by decide +kernel
theorem d10 : decode yB 10 = .ok (.aload_n 0, 1) := by decide +kernel
theorem d11 : decode yB 11 = .ok (.iload_n 1, 1) := by decide +kernel
theorem d12 : decode yB 12 = .ok (.caload, 1) := by decide +kernel
theorem d13 : decode yB 13 = .ok (.istore 6, 2) := by decide +kernel
theorem d15 : decode yB 15 = .ok (.iload 6, 2) := by decide +kernel
theorem d17 : decode yB 17 = .ok (.sipush 255, 3) := by decide +kernel
theorem d20 : decode yB 20 = .ok (.if_icmp (.le) 6, 3) := by decide +kernel
theorem d26 : decode yB 26 = .ok (.aload_n 2, 1) := by decide +kernel
theorem d27 : decode yB 27 = .ok (.iload_n 3, 1) := by decide +kernel
theorem d28 : decode yB 28 = .ok (.iload 6, 2) := by decide +kernel
theorem d30 : decode yB 30 = .ok (.i2b, 1) := by decide +kernel
theorem d31 : decode yB 31 = .ok (.bastore, 1) := by decide +kernel
theorem d32 : decode yB 32 = .ok (.iinc 1 1, 3) := by decide +kernel
theorem d35 : decode yB 35 = .ok (.iinc 3 1, 3) := by decide +kernel
theorem d38 : decode yB 38 = .ok (.iinc 5 1, 3) := by decide +kernel
theorem d41 : decode yB 41 = .ok (.goto (-38), 3) := by decide +kernel
theorem d44 : decode yB 44 = .ok (.iload 4, 2) := by decide +kernel
theorem d46 : decode yB 46 = .ok (.ireturn, 1) := by decide +kernel
def site : List Cond := []
def tab : Cond := tabOf yN yB 7 (some .int) site
def P (b : Addr) (A : Cell) (d : Addr) (B : Cell) (o q len : Nat) (args : Array Value) (s : State) : Prop := args = #[.ref b, .int (Int32.ofNat o), .ref d, .int (Int32.ofNat q), .int (Int32.ofNat len)] ∧ Ch b A s ∧ Arr .byte d B s ∧ b ≠ d ∧ o + len ≤ A.slots.size ∧ q + len ≤ B.slots.size ∧ ∀ i, i < len → ¬ 255 < cv A (o + i)
def E (b : Addr) (A : Cell) (d : Addr) (B : Cell) (o q len : Nat) (r : Option Value) (s u : State) : Prop := r = some (.int (Int32.ofNat len)) ∧ ∃ B', Put d B' s u ∧ Laid B B' q (q + len) (fun j => Value.int (lo8 (cv A (o + (j - q)))))
/-- no char of the range above 255: len; the places written hold each char's low byte -/
theorem law (l : Launch) (b : Addr) (A : Cell) (d : Addr) (B : Cell) (o q len : Nat) : Law l yN 5 5 0 0 yB 7 (some .int) site (P b A d B o q len) (E b A d B o q len) (copyLocs d q len) 0 0 := by
  refine Law.of_walk (plainFor_of_name (by decide +kernel)) (by decide +kernel) (by decide +kernel) (by decide) (fun _ _ h => by rw [h.1]; rfl) (fun _ U U' hal hh h => ⟨h.1, h.2.1.mv hal hh, h.2.2.1.mv hal hh, h.2.2.2⟩) (fun r U U' V V' h1 hal h2 h => ⟨h.1, h.2.elim fun B' q => ⟨B', q.1.mv h1 h2, q.2⟩⟩) ?_
  intro p e s m args below meth c s₁ X0 hexec hbytes hml hret hlk hnm hown hh0 W hP
  obtain ⟨rfl, hA, hB, hne, l1, l2, hp⟩ := hP
  have c1 : Steps p.tables e below (s₁.setTop (entryFrame m #[.ref b, .int (Int32.ofNat o), .ref d, .int (Int32.ofNat q), .int (Int32.ofNat len)] 7)) (s₁.setTop (mkF m 0 #[.val (.ref b), .val (.int (Int32.ofNat o)), .val (.ref d), .val (.int (Int32.ofNat q)), .val (.int (Int32.ofNat len)), .unset, .unset] [])) := entry rfl
  have hA0 := hA.1.mv X0.warmed.alike hh0
  have hB0 := hB.mv X0.warmed.alike hh0
  have a31 := hA.1.2.2.2
  have c2 : Steps p.tables e below (s₁.setTop (entryFrame m #[.ref b, .int (Int32.ofNat o), .ref d, .int (Int32.ofNat q), .int (Int32.ofNat len)] 7)) (s₁.setTop (mkF m 3 #[.val (.ref b), .val (.int (Int32.ofNat o)), .val (.ref d), .val (.int (Int32.ofNat q)), .val (.int (Int32.ofNat len)), .val (.int 0), .unset] [])) := c1.trans (by
    refine iconstV X0.here hexec rfl 0 (hb hbytes d0) (by decide) ?_
    refine XS.istore X0.here hexec rfl (hb hbytes d1) rfl rfl ?_
    exact Steps.refl _)
  have loop : ∀ (r i : Nat), i + r = len → ∀ (z : Slot), (z = .unset ∨ ∃ w, z = .val w ∧ w.category = 1) → ∀ (Tl : State) (Bk : Cell), Stand p l e { frames := 0, locals := 0, cells := 0, slots := 0 } s m #[.ref b, .int (Int32.ofNat o), .ref d, .int (Int32.ofNat q), .int (Int32.ofNat len)] below meth c Tl ([] ++ copyLocs d q i) 0 0 → Put d Bk s₁ Tl → Laid B Bk q (q + i) (fun j => Value.int (lo8 (cv A (o + (j - q))))) →
      Steps p.tables e below (s₁.setTop (entryFrame m #[.ref b, .int (Int32.ofNat o), .ref d, .int (Int32.ofNat q), .int (Int32.ofNat len)] 7)) (Tl.setTop (mkF m 3 #[.val (.ref b), .val (.int (Int32.ofNat (o + i))), .val (.ref d), .val (.int (Int32.ofNat (q + i))), .val (.int (Int32.ofNat len)), .val (.int (Int32.ofNat i)), z] [])) → ∃ (T' : State) (B' : Cell) (z' : Slot), Stand p l e { frames := 0, locals := 0, cells := 0, slots := 0 } s m #[.ref b, .int (Int32.ofNat o), .ref d, .int (Int32.ofNat q), .int (Int32.ofNat len)] below meth c T' ([] ++ copyLocs d q len) 0 0 ∧ Put d B' s₁ T' ∧ Laid B B' q (q + len) (fun j => Value.int (lo8 (cv A (o + (j - q))))) ∧
      Steps p.tables e below (s₁.setTop (entryFrame m #[.ref b, .int (Int32.ofNat o), .ref d, .int (Int32.ofNat q), .int (Int32.ofNat len)] 7)) (T'.setTop (mkF m 3 #[.val (.ref b), .val (.int (Int32.ofNat (o + len))), .val (.ref d), .val (.int (Int32.ofNat (q + len))), .val (.int (Int32.ofNat len)), .val (.int (Int32.ofNat len)), z'] [])) := by
    intro r
    induction r with
    | zero =>
      intro i hi z hz Tl Bk Xl pl fl cl
      have hil : i = len := by omega
      rw [hil] at Xl fl cl
      exact ⟨Tl, Bk, z, Xl, pl, fl, cl⟩
    | succ r ih =>
      intro i hi z hz Tl Bk Xl pl fl cl
      have all := X0.warmed.alike.symm.trans Xl.warmed.alike
      have hAl := hA0.keep all (pl.other hne hA0.1)
      have hBk := hB0.like all pl.1 fl.1 fl.2.1 fl.2.2.1
      have hlt : q + i < Bk.slots.size := by rw [fl.2.2.1]; omega
      have c3 : Steps p.tables e below (s₁.setTop (entryFrame m #[.ref b, .int (Int32.ofNat o), .ref d, .int (Int32.ofNat q), .int (Int32.ofNat len)] 7)) (Tl.setTop (mkF m 12 #[.val (.ref b), .val (.int (Int32.ofNat (o + i))), .val (.ref d), .val (.int (Int32.ofNat (q + i))), .val (.int (Int32.ofNat len)), .val (.int (Int32.ofNat i)), z] [.int (Int32.ofNat (o + i)), .ref b])) := cl.trans (by
        refine XS.iload Xl.here hexec rfl (hb hbytes d3) rfl ?_
        refine XS.iload Xl.here hexec rfl (hb hbytes d5) rfl ?_
        refine XS.icmpNo Xl.here hexec rfl (hb hbytes d7) rfl (ii_ge_f (lt32 (by omega) (by omega))) ?_
        refine XS.aloadN Xl.here hexec rfl (hb hbytes d10) rfl rfl ?_
        refine XS.iloadN Xl.here hexec rfl (hb hbytes d11) rfl ?_
        exact Steps.refl _)
      have c4 : Steps p.tables e below (s₁.setTop (entryFrame m #[.ref b, .int (Int32.ofNat o), .ref d, .int (Int32.ofNat q), .int (Int32.ofNat len)] 7)) (Tl.setTop (mkF m 13 #[.val (.ref b), .val (.int (Int32.ofNat (o + i))), .val (.ref d), .val (.int (Int32.ofNat (q + i))), .val (.int (Int32.ofNat len)), .val (.int (Int32.ofNat i)), z] [.int (cv A (o + i))])) := c3.trans (by
        refine Xl.aget hexec hAl rfl (hA.get (i := o + i) (by omega)) rfl rfl (hb hbytes d12) ?_
        exact Steps.refl _)
      have c5 : Steps p.tables e below (s₁.setTop (entryFrame m #[.ref b, .int (Int32.ofNat o), .ref d, .int (Int32.ofNat q), .int (Int32.ofNat len)] 7)) (Tl.setTop (mkF m 15 #[.val (.ref b), .val (.int (Int32.ofNat (o + i))), .val (.ref d), .val (.int (Int32.ofNat (q + i))), .val (.int (Int32.ofNat len)), .val (.int (Int32.ofNat i)), .val (.int (cv A (o + i)))] [])) := c4.trans (by
        refine XS.istoreS Xl.here hexec rfl (hb hbytes d13) rfl rfl hz ?_
        exact Steps.refl _)
      have c6 : Steps p.tables e below (s₁.setTop (entryFrame m #[.ref b, .int (Int32.ofNat o), .ref d, .int (Int32.ofNat q), .int (Int32.ofNat len)] 7)) (Tl.setTop (mkF m 31 #[.val (.ref b), .val (.int (Int32.ofNat (o + i))), .val (.ref d), .val (.int (Int32.ofNat (q + i))), .val (.int (Int32.ofNat len)), .val (.int (Int32.ofNat i)), .val (.int (cv A (o + i)))] [.int (lo8 (cv A (o + i))), .int (Int32.ofNat (q + i)), .ref d])) := c5.trans (by
        refine XS.iload Xl.here hexec rfl (hb hbytes d15) rfl ?_
        refine sipushV Xl.here hexec rfl 255 (hb hbytes d17) (by decide) ?_
        refine XS.icmpYes Xl.here hexec rfl (pc0 := 20) rfl (hb hbytes d20) rfl (ii_le_t (hp i (by omega))) (by decide) rfl ?_
        refine XS.aloadN Xl.here hexec rfl (hb hbytes d26) rfl rfl ?_
        refine XS.iloadN Xl.here hexec rfl (hb hbytes d27) rfl ?_
        refine XS.iload Xl.here hexec rfl (hb hbytes d28) rfl ?_
        refine i2b Xl.here hexec rfl (hb hbytes d30) rfl ?_
        exact Steps.refl _)
      obtain ⟨T7, X7, p7, st7⟩ := Xl.aput hexec hBk rfl hlt rfl (fits_lo8 (cv A (o + i))) (g := (mkF m 31 #[.val (.ref b), .val (.int (Int32.ofNat (o + i))), .val (.ref d), .val (.int (Int32.ofNat (q + i))), .val (.int (Int32.ofNat len)), .val (.int (Int32.ofNat i)), .val (.int (cv A (o + i)))] [.int (lo8 (cv A (o + i))), .int (Int32.ofNat (q + i)), .ref d])) rfl (rest := []) rfl (hb hbytes d31)
      have c8 : Steps p.tables e below (s₁.setTop (entryFrame m #[.ref b, .int (Int32.ofNat o), .ref d, .int (Int32.ofNat q), .int (Int32.ofNat len)] 7)) (T7.setTop (mkF m 32 #[.val (.ref b), .val (.int (Int32.ofNat (o + i))), .val (.ref d), .val (.int (Int32.ofNat (q + i))), .val (.int (Int32.ofNat len)), .val (.int (Int32.ofNat i)), .val (.int (cv A (o + i)))] [])) := c6.trans (st7 _ (Steps.refl _))
      have c9 : Steps p.tables e below (s₁.setTop (entryFrame m #[.ref b, .int (Int32.ofNat o), .ref d, .int (Int32.ofNat q), .int (Int32.ofNat len)] 7)) (T7.setTop (mkF m 3 #[.val (.ref b), .val (.int (Int32.ofNat (o + i) + 1)), .val (.ref d), .val (.int (Int32.ofNat (q + i) + 1)), .val (.int (Int32.ofNat len)), .val (.int (Int32.ofNat i + 1)), .val (.int (cv A (o + i)))] [])) := c8.trans (by
        refine iincV X7.here hexec rfl 1 (hb hbytes d32) (by decide) rfl rfl ?_
        refine iincV X7.here hexec rfl 1 (hb hbytes d35) (by decide) rfl rfl ?_
        refine iincV X7.here hexec rfl 1 (hb hbytes d38) (by decide) rfl rfl ?_
        refine XS.goto X7.here hexec rfl (pc0 := 41) rfl (hb hbytes d41) (by decide) rfl ?_
        exact Steps.refl _)
      have c10 : Steps p.tables e below (s₁.setTop (entryFrame m #[.ref b, .int (Int32.ofNat o), .ref d, .int (Int32.ofNat q), .int (Int32.ofNat len)] 7)) (T7.setTop (mkF m 3 #[.val (.ref b), .val (.int (Int32.ofNat (o + (i + 1)))), .val (.ref d), .val (.int (Int32.ofNat (q + (i + 1)))), .val (.int (Int32.ofNat len)), .val (.int (Int32.ofNat (i + 1))), .val (.int (cv A (o + i)))] [])) := by
        have := c9
        rw [succ32, succ32, succ32] at this
        exact this
      exact ih (i + 1) (by omega) _ (Or.inr ⟨_, rfl, rfl⟩) T7 _ (by rw [copyLocs_step, ← List.append_assoc]; exact X7) (pl.trans p7) (fl.step (by omega) hlt (by simp)) c10
  obtain ⟨T9, B9, z9, X9, p9, f9, g9⟩ := loop len 0 (by omega) .unset (Or.inl rfl) s₁ B (by simpa [copyLocs] using X0) ⟨hB0.1, fun _ _ => rfl, rfl⟩ (Laid.zero _ _ _) c2
  have c11 : Steps p.tables e below (s₁.setTop (entryFrame m #[.ref b, .int (Int32.ofNat o), .ref d, .int (Int32.ofNat q), .int (Int32.ofNat len)] 7)) (T9.setTop (mkF m 46 #[.val (.ref b), .val (.int (Int32.ofNat (o + len))), .val (.ref d), .val (.int (Int32.ofNat (q + len))), .val (.int (Int32.ofNat len)), .val (.int (Int32.ofNat len)), z9] [.int (Int32.ofNat len)])) := g9.trans (by
    refine XS.iload X9.here hexec rfl (hb hbytes d3) rfl ?_
    refine XS.iload X9.here hexec rfl (hb hbytes d5) rfl ?_
    refine XS.icmpYes X9.here hexec rfl (pc0 := 7) rfl (hb hbytes d7) rfl (ii_ge_t (nlt32 (by omega) (Nat.le_refl _))) (by decide) rfl ?_
    refine XS.iload X9.here hexec rfl (hb hbytes d44) rfl ?_
    exact Steps.refl _)
  exact ⟨T9, some (.int (Int32.ofNat len)), _, _, _, X9, by simp, rfl, rfl, (fun h => by cases h), ⟨rfl, B9, p9.from hh0, f9⟩, fun fs hl => c11.trans (X9.ireturnOut hexec hret rfl (Or.inl rfl) (hb hbytes d46) hl)⟩
end Cmp5
namespace Cmp3
def yN : MethodName := ⟨"java/lang/StringUTF16", "compress", "([CII)[B"⟩
abbrev yB : ByteArray := jdk_52_method_16_code
theorem d0 : decode yB 0 = .ok (.iload_n 2, 1) := by decide +kernel
theorem d1 : decode yB 1 = .ok (.newarray .byte, 2) := by decide +kernel
theorem d3 : decode yB 3 = .ok (.astore_n 3, 1) := by decide +kernel
theorem d4 : decode yB 4 = .ok (.aload_n 0, 1) := by decide +kernel
theorem d5 : decode yB 5 = .ok (.iload_n 1, 1) := by decide +kernel
theorem d6 : decode yB 6 = .ok (.aload_n 3, 1) := by decide +kernel
theorem d7 : decode yB 7 = .ok (.iconst 0, 1) := by decide +kernel
theorem d8 : decode yB 8 = .ok (.iload_n 2, 1) := by decide +kernel
theorem d9 : decode yB 9 = .ok (.invokestatic 115, 3) := by decide +kernel
theorem d12 : decode yB 12 = .ok (.istore 4, 2) := by decide +kernel
theorem d14 : decode yB 14 = .ok (.iload 4, 2) := by decide +kernel
theorem d16 : decode yB 16 = .ok (.iload_n 2, 1) := by decide +kernel
theorem d17 : decode yB 17 = .ok (.if_icmp (.eq) 40, 3) := by decide +kernel
theorem d57 : decode yB 57 = .ok (.aload_n 3, 1) := by decide +kernel
theorem d58 : decode yB 58 = .ok (.areturn, 1) := by decide +kernel
def site : List Cond := [.arrayClass .byte, Cmp5.tab] ++ staticW U16 115 Cmp5.yN
def tab : Cond := tabOf yN yB 6 (some (.array .byte)) site
def P (b : Addr) (A : Cell) (o len : Nat) (args : Array Value) (s : State) : Prop := args = #[.ref b, .int (Int32.ofNat o), .int (Int32.ofNat len)] ∧ Ch b A s ∧ o + len ≤ A.slots.size ∧ len ≤ 536870912 ∧ ∀ i, i < len → ¬ 255 < cv A (o + i)
def E (b : Addr) (A : Cell) (o len : Nat) (r : Option Value) (s u : State) : Prop := NewArr .byte "[B" len (fun j => .int (lo8 (cv A (o + j)))) r s u ∧ u.heap.size = s.heap.size + 1
/-- no char of the range above 255: a new byte[] of their low bytes -/
theorem law (l : Launch) (b : Addr) (A : Cell) (o len : Nat) : Law l yN 3 3 1 18 yB 6 (some (.array .byte)) site (P b A o len) (E b A o len) [] 1 len := by
  refine Law.of_walk (plainFor_of_name (by decide +kernel)) (by decide +kernel) (by decide +kernel) (by decide) (fun _ _ h => by rw [h.1]; rfl) (fun _ U U' hal hh h => ⟨h.1, h.2.1.mv hal hh, h.2.2⟩) (fun r U U' V V' h1 hal h2 h => ⟨NewArr.mv r U U' V V' h1 hal h2 h.1, by rw [h1, h2]; exact h.2⟩) ?_
  intro p e s m args below meth c s₁ X0 hexec hbytes hml hret hlk hnm hown hh0 W hP
  obtain ⟨rfl, hA, l1, l2, hp⟩ := hP
  have a31 := hA.1.2.2.2
  have c1 : Steps p.tables e below (s₁.setTop (entryFrame m #[.ref b, .int (Int32.ofNat o), .int (Int32.ofNat len)] 6)) (s₁.setTop (mkF m 0 #[.val (.ref b), .val (.int (Int32.ofNat o)), .val (.int (Int32.ofNat len)), .unset, .unset, .unset] [])) := entry rfl
  have c2 : Steps p.tables e below (s₁.setTop (entryFrame m #[.ref b, .int (Int32.ofNat o), .int (Int32.ofNat len)] 6)) (s₁.setTop (mkF m 1 #[.val (.ref b), .val (.int (Int32.ofNat o)), .val (.int (Int32.ofNat len)), .unset, .unset, .unset] [.int (Int32.ofNat len)])) := c1.trans (by
    refine XS.iloadN X0.here hexec rfl (hb hbytes d0) rfl ?_
    exact Steps.refl _)
  obtain ⟨T3, B3, X3, ba3, bs3, bv3, bh3, bf3, st3⟩ := X0.anew hexec (atype := .byte) (wk W (.arrayClass .byte)) rfl (by show len * 1 ≤ _; omega) (by omega) (g := (mkF m 1 #[.val (.ref b), .val (.int (Int32.ofNat o)), .val (.int (Int32.ofNat len)), .unset, .unset, .unset] [.int (Int32.ofNat len)])) rfl (hb hbytes d1) (rest := []) rfl (Nat.le_refl _) (by show 0 + len ≤ len; omega)
  rw [hh0] at ba3 st3
  have kp3 : XT.Kept s T3 := (XT.Kept.of_eq hh0).push bh3
  have hA3 := hA.keep X3.warmed.alike (kp3 _ _ hA.1.1)
  have hne : b ≠ s.heap.size := hA.1.ne
  have c4 : Steps p.tables e below (s₁.setTop (entryFrame m #[.ref b, .int (Int32.ofNat o), .int (Int32.ofNat len)] 6)) (T3.setTop (mkF m 3 #[.val (.ref b), .val (.int (Int32.ofNat o)), .val (.int (Int32.ofNat len)), .unset, .unset, .unset] [.ref s.heap.size])) := c2.trans (st3 _ (Steps.refl _))
  have c5 : Steps p.tables e below (s₁.setTop (entryFrame m #[.ref b, .int (Int32.ofNat o), .int (Int32.ofNat len)] 6)) (T3.setTop (mkF m 9 #[.val (.ref b), .val (.int (Int32.ofNat o)), .val (.int (Int32.ofNat len)), .val (.ref s.heap.size), .unset, .unset] [.int (Int32.ofNat len), .int 0, .ref s.heap.size, .int (Int32.ofNat o), .ref b])) := c4.trans (by
    refine XS.astoreN X3.here hexec rfl (hb hbytes d3) rfl rfl rfl ?_
    refine XS.aloadN X3.here hexec rfl (hb hbytes d4) rfl rfl ?_
    refine XS.iloadN X3.here hexec rfl (hb hbytes d5) rfl ?_
    refine XS.aloadN X3.here hexec rfl (hb hbytes d6) rfl rfl ?_
    refine iconstV X3.here hexec rfl 0 (hb hbytes d7) (by decide) ?_
    refine XS.iloadN X3.here hexec rfl (hb hbytes d8) rfl ?_
    exact Steps.refl _)
  obtain ⟨v6, T6, X6, E6, g6⟩ := X3.callS hexec (Cmp5.law l b A s.heap.size B3 o 0 len) hown (wks W (staticW U16 115 Cmp5.yN)) (wk W Cmp5.tab) (W := 0) (Nat.le_of_ble_eq_true rfl) (Nat.le_of_ble_eq_true rfl) (Nat.le_refl _) (by show 0 + len + 0 ≤ len; omega) (g := (mkF m 9 #[.val (.ref b), .val (.int (Int32.ofNat o)), .val (.int (Int32.ofNat len)), .val (.ref s.heap.size), .unset, .unset] [.int (Int32.ofNat len), .int (Int32.ofNat 0), .ref s.heap.size, .int (Int32.ofNat o), .ref b])) rfl (by rw [hml]; rfl) c5 (argsL := [.ref b, .int (Int32.ofNat o), .ref s.heap.size, .int (Int32.ofNat 0), .int (Int32.ofNat len)]) (rest := []) rfl rfl (by show 2 * 0 + 0 ≤ _; decide) (hb hbytes d9) (⟨rfl, hA3, ba3, hne, l1, by rw [bs3]; simp, hp⟩)
  obtain ⟨rfl, B6, p6, f6⟩ := E6
  have c7 : Steps p.tables e below (s₁.setTop (entryFrame m #[.ref b, .int (Int32.ofNat o), .int (Int32.ofNat len)] 6)) (T6.setTop (mkF m 12 #[.val (.ref b), .val (.int (Int32.ofNat o)), .val (.int (Int32.ofNat len)), .val (.ref s.heap.size), .unset, .unset] [.int (Int32.ofNat len)])) := g6
  have c8 : Steps p.tables e below (s₁.setTop (entryFrame m #[.ref b, .int (Int32.ofNat o), .int (Int32.ofNat len)] 6)) (T6.setTop (mkF m 58 #[.val (.ref b), .val (.int (Int32.ofNat o)), .val (.int (Int32.ofNat len)), .val (.ref s.heap.size), .val (.int (Int32.ofNat len)), .unset] [.ref s.heap.size])) := c7.trans (by
    refine XS.istore X6.here hexec rfl (hb hbytes d12) rfl rfl ?_
    refine XS.iload X6.here hexec rfl (hb hbytes d14) rfl ?_
    refine XS.iloadN X6.here hexec rfl (hb hbytes d16) rfl ?_
    refine XS.icmpYes X6.here hexec rfl (pc0 := 17) rfl (hb hbytes d17) rfl (ii_eq_t rfl) (by decide) rfl ?_
    refine XS.aloadN X6.here hexec rfl (hb hbytes d57) rfl rfl ?_
    exact Steps.refl _)
  have X8 := X6.wide (L' := []) (cells' := 1) (slots' := len) (fun x hx hlt => by
    simp only [List.nil_append, copyLocs, List.mem_map, List.mem_range] at hx
    obtain ⟨i, -, rfl⟩ := hx
    exact absurd hlt (Nat.lt_irrefl _)) (Nat.le_refl _) (by omega)
  exact ⟨T6, some (.ref s.heap.size), _, _, _, X8, rfl, rfl, rfl, (fun h => by cases h), ⟨⟨rfl, B6, ba3.like (X3.warmed.alike.symm.trans X6.warmed.alike) p6.1 f6.1 f6.2.1 f6.2.2.1, f6.2.1.trans bv3, by rw [X6.warmed.alike.findClass, f6.1]; exact bf3, by rw [f6.2.2.1, bs3]; simp, fun j hj => by rw [f6.2.2.2 j, if_pos (by omega)]; rfl, kp3.put p6 (Nat.le_refl _)⟩, by rw [p6.2.2, bh3, hh0]; simp⟩, fun fs hl => c8.trans (X8.areturnOut hexec rfl hret rfl (hb hbytes d58) hl)⟩
end Cmp3
namespace CodL
def yN : MethodName := ⟨"java/lang/StringUTF16", "coderFromArrayLen", "([BI)B"⟩
abbrev yB : ByteArray := jdk_52_method_15_code
theorem d0 : decode yB 0 = .ok (.iload_n 1, 1) := by decide +kernel
theorem d1 : decode yB 1 = .ok (.aload_n 0, 1) := by decide +kernel
theorem d2 : decode yB 2 = .ok (.arraylength, 1) := by decide +kernel
theorem d3 : decode yB 3 = .ok (.isub, 1) := by decide +kernel
theorem d4 : decode yB 4 = .ok (.bipush 31, 2) := by decide +kernel
theorem d6 : decode yB 6 = .ok (.iushr, 1) := by decide +kernel
theorem d7 : decode yB 7 = .ok (.i2b, 1) := by decide +kernel
theorem d8 : decode yB 8 = .ok (.ireturn, 1) := by decide +kernel
def site : List Cond := []
def tab : Cond := tabOf yN yB 2 (some .byte) site
def P (d : Addr) (B : Cell) (args : Array Value) (s : State) : Prop := args = #[.ref d, .int (Int32.ofNat B.slots.size)] ∧ Arr .byte d B s
def E (r : Option Value) (s u : State) : Prop := XT.PureE (some (.int 0)) r s u
/-- an array as long as the number of chars: LATIN1 -/
theorem law (l : Launch) (d : Addr) (B : Cell) : Law l yN 2 2 0 0 yB 2 (some .byte) site (P d B) E [] 0 0 := by
  refine Law.of_walk (plainFor_of_name (by decide +kernel)) (by decide +kernel) (by decide +kernel) (by decide) (fun _ _ h => by rw [h.1]; rfl) (fun _ U U' hal hh h => ⟨h.1, h.2.mv hal hh⟩) (fun r U U' V V' h1 hal h2 h => XT.PureE.mv r U U' V V' h1 hal h2 h) ?_
  intro p e s m args below meth c s₁ X0 hexec hbytes hml hret hlk hnm hown hh0 W hP
  obtain ⟨rfl, hB⟩ := hP
  have hB0 := hB.mv X0.warmed.alike hh0
  have c1 : Steps p.tables e below (s₁.setTop (entryFrame m #[.ref d, .int (Int32.ofNat B.slots.size)] 2)) (s₁.setTop (mkF m 0 #[.val (.ref d), .val (.int (Int32.ofNat B.slots.size))] [])) := entry rfl
  have c2 : Steps p.tables e below (s₁.setTop (entryFrame m #[.ref d, .int (Int32.ofNat B.slots.size)] 2)) (s₁.setTop (mkF m 2 #[.val (.ref d), .val (.int (Int32.ofNat B.slots.size))] [.ref d, .int (Int32.ofNat B.slots.size)])) := c1.trans (by
    refine XS.iloadN X0.here hexec rfl (hb hbytes d0) rfl ?_
    refine XS.aloadN X0.here hexec rfl (hb hbytes d1) rfl rfl ?_
    exact Steps.refl _)
  have c3 : Steps p.tables e below (s₁.setTop (entryFrame m #[.ref d, .int (Int32.ofNat B.slots.size)] 2)) (s₁.setTop (mkF m 8 #[.val (.ref d), .val (.int (Int32.ofNat B.slots.size))] [.int (lo8 (ushr (Int32.ofNat B.slots.size - Int32.ofNat B.slots.size) 31))])) := c2.trans (by
    refine X0.alen hexec hB0 rfl rfl (hb hbytes d2) ?_
    refine XS.isub X0.here hexec rfl (hb hbytes d3) rfl ?_
    refine bipushV X0.here hexec rfl 31 (hb hbytes d4) (by decide) ?_
    refine iushr X0.here hexec rfl (hb hbytes d6) rfl ?_
    refine i2b X0.here hexec rfl (hb hbytes d7) rfl ?_
    exact Steps.refl _)
  have e0 : lo8 (ushr (Int32.ofNat B.slots.size - Int32.ofNat B.slots.size) 31) = 0 := by rw [Int32.sub_self]; decide
  rw [e0] at c3
  exact ⟨s₁, some (.int 0), _, _, _, X0, rfl, rfl, rfl, (fun h => by cases h), ⟨rfl, hh0⟩, fun fs hl => c3.trans (X0.ireturnOut hexec hret rfl (Or.inr (Or.inr (Or.inl rfl))) (hb hbytes d8) hl)⟩
end CodL
/-- the String at a is Latin-1 over a new byte[] (the heap's one new cell): the low bytes of the len chars of A from o on; every cell but a is kept -/
def Got (a : Addr) (D : Cell) (fV fC : Field) (A : Cell) (o len : Nat) (r : Option Value) (s u : State) : Prop := r = none ∧ ∃ D' V : Cell, Blank "java/lang/String" a D' u ∧ Same D D' [fV.slot, fC.slot] ∧ D'.slots[fV.slot]? = some (.ref s.heap.size) ∧ D'.slots[fC.slot]? = some (.int 0) ∧ Arr .byte s.heap.size V u ∧ V.vm = .none ∧ u.vm.findClass "[B" = some V.cls ∧ V.slots.size = len ∧ (∀ j, j < len → V.slots[j]? = some (.int (lo8 (cv A (o + j))))) ∧ (∀ (y : Addr) (c : Cell), y ≠ a → s.heap[y]? = some c → u.heap[y]? = some c) ∧ u.heap.size = s.heap.size + 1
theorem Got.mv {a : Addr} {D A : Cell} {fV fC : Field} {o len : Nat} : ∀ r (U U' V V' : State), U'.heap = U.heap → V.vm.Alike V'.vm → V'.heap = V.heap → Got a D fV fC A o len r U V → Got a D fV fC A o len r U' V' :=
  fun r U U' V V' h1 hal h2 ⟨e0, D', X, a1, a2, a3, a4, a5, a6, a7, a8, a9, a10, a11⟩ => ⟨e0, D', X, a1.mv hal h2, a2, by rw [h1]; exact a3, a4, by rw [h1]; exact a5.mv hal h2, a6, by rw [hal.findClass]; exact a7, a8, a9, by rw [h1, h2]; exact a10, by rw [h1, h2]; exact a11⟩
namespace New4
def yN : MethodName := ⟨"java/lang/String", "<init>", "([CIILjava/lang/Void;)V"⟩
abbrev yB : ByteArray := jdk_42_method_149_code
theorem d0 : decode yB 0 = .ok (.aload_n 0, 1) := by decide +kernel
theorem d1 : decode yB 1 = .ok (.invokespecial 1, 3) := by decide +kernel
theorem d4 : decode yB 4 = .ok (.iload_n 3, 1) := by decide +kernel
theorem d5 : decode yB 5 = .ok (.ifCond (.ne) 22, 3) := by decide +kernel
theorem d27 : decode yB 27 = .ok (.getstatic 38, 3) := by decide +kernel
theorem d30 : decode yB 30 = .ok (.ifCond (.eq) 28, 3) := by decide +kernel
theorem d33 : decode yB 33 = .ok (.aload_n 1, 1) := by decide +kernel
theorem d34 : decode yB 34 = .ok (.iload_n 2, 1) := by decide +kernel
theorem d35 : decode yB 35 = .ok (.iload_n 3, 1) := by decide +kernel
theorem d36 : decode yB 36 = .ok (.invokestatic 177, 3) := by decide +kernel
theorem d39 : decode yB 39 = .ok (.astore 5, 2) := by decide +kernel
theorem d41 : decode yB 41 = .ok (.aload_n 0, 1) := by decide +kernel
theorem d42 : decode yB 42 = .ok (.aload 5, 2) := by decide +kernel
theorem d44 : decode yB 44 = .ok (.iload_n 3, 1) := by decide +kernel
theorem d45 : decode yB 45 = .ok (.invokestatic 47, 3) := by decide +kernel
theorem d48 : decode yB 48 = .ok (.putfield 15, 3) := by decide +kernel
theorem d51 : decode yB 51 = .ok (.aload_n 0, 1) := by decide +kernel
theorem d52 : decode yB 52 = .ok (.aload 5, 2) := by decide +kernel
theorem d54 : decode yB 54 = .ok (.putfield 9, 3) := by decide +kernel
theorem d57 : decode yB 57 = .ok (.return_, 1) := by decide +kernel
def site : List Cond := [.fieldLink "java/lang/String" 38 "java/lang/String" "COMPACT_STRINGS" "Z", Cmp3.tab, CodL.tab, .laysFinal "java/lang/String" "java/lang/String" "value" "[B", .fieldLink "java/lang/String" 9 "java/lang/String" "value" "[B", .laysFinal "java/lang/String" "java/lang/String" "coder" "B", .fieldLink "java/lang/String" 15 "java/lang/String" "coder" "B"] ++ objW "java/lang/String" 1 ++ staticW "java/lang/String" 177 Cmp3.yN ++ staticW "java/lang/String" 47 CodL.yN
def tab : Cond := tabOf yN yB 6 none site
def P (a : Addr) (D : Cell) (fV fC : Field) (b : Addr) (A : Cell) (z : Int32) (o len : Nat) (args : Array Value) (s : State) : Prop := args = #[.ref a, .ref b, .int (Int32.ofNat o), .int (Int32.ofNat len), .null] ∧ Blank "java/lang/String" a D s ∧ Found "java/lang/String" "value" "[B" fV s ∧ Found "java/lang/String" "coder" "B" fC s ∧ Ch b A s ∧ StaticIs s "java/lang/String" "COMPACT_STRINGS" "Z" (.int z) ∧ ¬ z = 0 ∧ 0 < len ∧ o + len ≤ A.slots.size ∧ len ≤ 536870912 ∧ ∀ i, i < len → ¬ 255 < cv A (o + i)
def E (a : Addr) (D : Cell) (fV fC : Field) (A : Cell) (o len : Nat) (r : Option Value) (s u : State) : Prop := Got a D fV fC A o len r s u
/-- len > 0, no char of the range above 255: a Latin-1 String of their low bytes -/
theorem law (l : Launch) (a : Addr) (D : Cell) (fV fC : Field) (b : Addr) (A : Cell) (z : Int32) (o len : Nat) : Law l yN 5 4 2 35 yB 6 none site (P a D fV fC b A z o len) (E a D fV fC A o len) [⟨a, fC.slot⟩, ⟨a, fV.slot⟩] 1 len := by
  refine Law.of_walk (plainFor_of_name (by decide +kernel)) (by decide +kernel) (by decide +kernel) (by decide) (fun _ _ h => by rw [h.1]; rfl) (fun _ U U' hal hh h => ⟨h.1, h.2.1.mv hal hh, h.2.2.1.al hal, h.2.2.2.1.al hal, h.2.2.2.2.1.mv hal hh, h.2.2.2.2.2.1.there hal hh, h.2.2.2.2.2.2⟩) (fun r U U' V V' h1 hal h2 h => Got.mv r U U' V V' h1 hal h2 h) ?_
  intro p e s m args below meth c s₁ X0 hexec hbytes hml hret hlk hnm hown hh0 W hP
  obtain ⟨rfl, hB, f1, f2, hA, s1, hz, l0, l1, l2, hp⟩ := hP
  have a31 := hA.1.2.2.2
  have c1 : Steps p.tables e below (s₁.setTop (entryFrame m #[.ref a, .ref b, .int (Int32.ofNat o), .int (Int32.ofNat len), .null] 6)) (s₁.setTop (mkF m 0 #[.val (.ref a), .val (.ref b), .val (.int (Int32.ofNat o)), .val (.int (Int32.ofNat len)), .val .null, .unset] [])) := entry rfl
  have c2 : Steps p.tables e below (s₁.setTop (entryFrame m #[.ref a, .ref b, .int (Int32.ofNat o), .int (Int32.ofNat len), .null] 6)) (s₁.setTop (mkF m 1 #[.val (.ref a), .val (.ref b), .val (.int (Int32.ofNat o)), .val (.int (Int32.ofNat len)), .val .null, .unset] [.ref a])) := c1.trans (by
    refine XS.aloadN X0.here hexec rfl (hb hbytes d0) rfl rfl ?_
    exact Steps.refl _)
  obtain ⟨T3, X3, q3, st3⟩ := X0.oinit hexec hown (wks W (objW "java/lang/String" 1)) (g := (mkF m 1 #[.val (.ref a), .val (.ref b), .val (.int (Int32.ofNat o)), .val (.int (Int32.ofNat len)), .val .null, .unset] [.ref a])) rfl (by rw [hml]; rfl) (rest := []) rfl (hb hbytes d1) (W := 0) (by show 2 * 0 + 0 ≤ _; decide) (Nat.le_of_ble_eq_true rfl) (Nat.le_of_ble_eq_true rfl)
  have hh3 := q3.trans hh0
  have c4 : Steps p.tables e below (s₁.setTop (entryFrame m #[.ref a, .ref b, .int (Int32.ofNat o), .int (Int32.ofNat len), .null] 6)) (T3.setTop (mkF m 27 #[.val (.ref a), .val (.ref b), .val (.int (Int32.ofNat o)), .val (.int (Int32.ofNat len)), .val .null, .unset] [])) := (c2.trans (st3 _ (Steps.refl _))).trans (by
    refine XS.iloadN X3.here hexec rfl (hb hbytes d4) rfl ?_
    refine XS.ifYes X3.here hexec rfl (pc0 := 5) rfl (hb hbytes d5) rfl (i0_ne_t (nz32 (by omega) l0)) (by decide) rfl ?_
    exact Steps.refl _)
  obtain ⟨T5, X5, q5, st5⟩ := X3.sget hexec hown (wk W (.fieldLink "java/lang/String" 38 "java/lang/String" "COMPACT_STRINGS" "Z")) s1 (fun _ _ h => by rw [hh3]; exact h) (g := (mkF m 27 #[.val (.ref a), .val (.ref b), .val (.int (Int32.ofNat o)), .val (.int (Int32.ofNat len)), .val .null, .unset] [])) rfl (hb hbytes d27)
  have hh5 := q5.trans hh3
  have c6 : Steps p.tables e below (s₁.setTop (entryFrame m #[.ref a, .ref b, .int (Int32.ofNat o), .int (Int32.ofNat len), .null] 6)) (T5.setTop (mkF m 30 #[.val (.ref a), .val (.ref b), .val (.int (Int32.ofNat o)), .val (.int (Int32.ofNat len)), .val .null, .unset] [.int z])) := c4.trans (st5 _ (Steps.refl _))
  have c7 : Steps p.tables e below (s₁.setTop (entryFrame m #[.ref a, .ref b, .int (Int32.ofNat o), .int (Int32.ofNat len), .null] 6)) (T5.setTop (mkF m 36 #[.val (.ref a), .val (.ref b), .val (.int (Int32.ofNat o)), .val (.int (Int32.ofNat len)), .val .null, .unset] [.int (Int32.ofNat len), .int (Int32.ofNat o), .ref b])) := c6.trans (by
    refine XS.ifNo X5.here hexec rfl (hb hbytes d30) rfl (i0_eq_f hz) ?_
    refine XS.aloadN X5.here hexec rfl (hb hbytes d33) rfl rfl ?_
    refine XS.iloadN X5.here hexec rfl (hb hbytes d34) rfl ?_
    refine XS.iloadN X5.here hexec rfl (hb hbytes d35) rfl ?_
    exact Steps.refl _)
  obtain ⟨v8, T8, X8, E8, g8⟩ := X5.callS hexec (Cmp3.law l b A o len) hown (wks W (staticW "java/lang/String" 177 Cmp3.yN)) (wk W Cmp3.tab) (W := 0) (Nat.le_of_ble_eq_true rfl) (Nat.le_of_ble_eq_true rfl) (Nat.le_refl _) (by show 0 + len ≤ len; omega) (g := (mkF m 36 #[.val (.ref a), .val (.ref b), .val (.int (Int32.ofNat o)), .val (.int (Int32.ofNat len)), .val .null, .unset] [.int (Int32.ofNat len), .int (Int32.ofNat o), .ref b])) rfl (by rw [hml]; rfl) c7 (argsL := [.ref b, .int (Int32.ofNat o), .int (Int32.ofNat len)]) (rest := []) rfl rfl (by show 2 * 0 + 0 ≤ _; decide) (hb hbytes d36) (⟨rfl, hA.mv X5.warmed.alike hh5, l1, l2, hp⟩)
  obtain ⟨e8, z8⟩ := E8
  obtain ⟨rfl, N, n1, n2, n3, n4, n5, n6⟩ := NewArr.mv _ T5 s _ _ hh5.symm (Vm.Alike.refl _) rfl e8
  rw [hh5] at z8
  have hB1 := hB.keep X8.warmed.alike (n6 _ _ hB.1)
  have hne : s.heap.size ≠ a := (Nat.ne_of_lt (Array.getElem?_eq_some_iff.mp hB.1).1).symm
  have c9 : Steps p.tables e below (s₁.setTop (entryFrame m #[.ref a, .ref b, .int (Int32.ofNat o), .int (Int32.ofNat len), .null] 6)) (T8.setTop (mkF m 39 #[.val (.ref a), .val (.ref b), .val (.int (Int32.ofNat o)), .val (.int (Int32.ofNat len)), .val .null, .unset] [.ref s.heap.size])) := g8
  have c10 : Steps p.tables e below (s₁.setTop (entryFrame m #[.ref a, .ref b, .int (Int32.ofNat o), .int (Int32.ofNat len), .null] 6)) (T8.setTop (mkF m 45 #[.val (.ref a), .val (.ref b), .val (.int (Int32.ofNat o)), .val (.int (Int32.ofNat len)), .val .null, .val (.ref s.heap.size)] [.int (Int32.ofNat N.slots.size), .ref s.heap.size, .ref a])) := by
    have hc : Steps p.tables e below (s₁.setTop (entryFrame m #[.ref a, .ref b, .int (Int32.ofNat o), .int (Int32.ofNat len), .null] 6)) (T8.setTop (mkF m 45 #[.val (.ref a), .val (.ref b), .val (.int (Int32.ofNat o)), .val (.int (Int32.ofNat len)), .val .null, .val (.ref s.heap.size)] [.int (Int32.ofNat len), .ref s.heap.size, .ref a])) := c9.trans (by
      refine XS.astore X8.here hexec rfl (hb hbytes d39) rfl rfl rfl ?_
      refine XS.aloadN X8.here hexec rfl (hb hbytes d41) rfl rfl ?_
      refine XS.aload X8.here hexec rfl (hb hbytes d42) rfl rfl ?_
      refine XS.iloadN X8.here hexec rfl (hb hbytes d44) rfl ?_
      exact Steps.refl _)
    rw [n4]; exact hc
  obtain ⟨v11, T11, X11, E11, g11⟩ := X8.callS hexec (CodL.law l s.heap.size N) hown (wks W (staticW "java/lang/String" 47 CodL.yN)) (wk W CodL.tab) (W := 1) (Nat.le_of_ble_eq_true rfl) (Nat.le_of_ble_eq_true rfl) (Nat.le_refl _) (by show 0 + len + 0 ≤ len; omega) (g := (mkF m 45 #[.val (.ref a), .val (.ref b), .val (.int (Int32.ofNat o)), .val (.int (Int32.ofNat len)), .val .null, .val (.ref s.heap.size)] [.int (Int32.ofNat N.slots.size), .ref s.heap.size, .ref a])) rfl (by rw [hml]; rfl) c10 (argsL := [.ref s.heap.size, .int (Int32.ofNat N.slots.size)]) (rest := [.ref a]) rfl rfl (by show 2 * 0 + (1 + 0) ≤ _; decide) (hb hbytes d45) (⟨rfl, n1⟩)
  obtain ⟨rfl, q11⟩ := E11
  have hB11 := hB1.mv (X8.warmed.alike.symm.trans X11.warmed.alike) q11
  have c12 : Steps p.tables e below (s₁.setTop (entryFrame m #[.ref a, .ref b, .int (Int32.ofNat o), .int (Int32.ofNat len), .null] 6)) (T11.setTop (mkF m 48 #[.val (.ref a), .val (.ref b), .val (.int (Int32.ofNat o)), .val (.int (Int32.ofNat len)), .val .null, .val (.ref s.heap.size)] [.int 0, .ref a])) := g11
  obtain ⟨T13, X13, p13, bl13, sl13, st13⟩ := X11.finit hexec hown (wk W (.fieldLink "java/lang/String" 15 "java/lang/String" "coder" "B")) (Or.inr ⟨_, (wk W (.laysFinal "java/lang/String" "java/lang/String" "coder" "B"))⟩) (Or.inl ⟨rfl, hnm⟩) f2 (Or.inl rfl) hB11 (t := .byte) (by decide +kernel) rfl (g := (mkF m 48 #[.val (.ref a), .val (.ref b), .val (.int (Int32.ofNat o)), .val (.int (Int32.ofNat len)), .val .null, .val (.ref s.heap.size)] [.int 0, .ref a])) rfl (rest := []) rfl (hb hbytes d48)
  have c14 : Steps p.tables e below (s₁.setTop (entryFrame m #[.ref a, .ref b, .int (Int32.ofNat o), .int (Int32.ofNat len), .null] 6)) (T13.setTop (mkF m 54 #[.val (.ref a), .val (.ref b), .val (.int (Int32.ofNat o)), .val (.int (Int32.ofNat len)), .val .null, .val (.ref s.heap.size)] [.ref s.heap.size, .ref a])) := (c12.trans (st13 _ (Steps.refl _))).trans (by
    refine XS.aloadN X13.here hexec rfl (hb hbytes d51) rfl rfl ?_
    refine XS.aload X13.here hexec rfl (hb hbytes d52) rfl rfl ?_
    exact Steps.refl _)
  obtain ⟨T15, X15, p15, bl15, sl15, st15⟩ := X13.finit hexec hown (wk W (.fieldLink "java/lang/String" 9 "java/lang/String" "value" "[B")) (Or.inr ⟨_, (wk W (.laysFinal "java/lang/String" "java/lang/String" "value" "[B"))⟩) (Or.inl ⟨rfl, hnm⟩) f1 (Or.inl rfl) bl13 (t := (.array .byte)) (by decide +kernel) rfl (g := (mkF m 54 #[.val (.ref a), .val (.ref b), .val (.int (Int32.ofNat o)), .val (.int (Int32.ofNat len)), .val .null, .val (.ref s.heap.size)] [.ref s.heap.size, .ref a])) rfl (rest := []) rfl (hb hbytes d54)
  have c16 : Steps p.tables e below (s₁.setTop (entryFrame m #[.ref a, .ref b, .int (Int32.ofNat o), .int (Int32.ofNat len), .null] 6)) (T15.setTop (mkF m 57 #[.val (.ref a), .val (.ref b), .val (.int (Int32.ofNat o)), .val (.int (Int32.ofNat len)), .val .null, .val (.ref s.heap.size)] [])) := c14.trans (st15 _ (Steps.refl _))
  have ap := apart (Or.inr ⟨_, (wk W (.laysFinal "java/lang/String" "java/lang/String" "value" "[B"))⟩) (Or.inr ⟨_, (wk W (.laysFinal "java/lang/String" "java/lang/String" "coder" "B"))⟩) f1 f2 (t₁ := .array .byte) (t₂ := .byte) (by decide +kernel) (by decide +kernel) (by decide)
  have al := X8.warmed.alike.symm.trans X15.warmed.alike
  have n7 : T11.heap[s.heap.size]? = some N := by rw [q11]; exact n1.1
  exact ⟨T15, none, _, _, _, X15, by simp, rfl, by omega, (fun _ => rfl), ⟨rfl, _, N, bl15, ((Same.refl D _).set _ (by simp)).set _ (by simp), sl15, (Cell.slots_setSlot_ne _ ap).trans sl13, n1.keep al (p15.other hne (p13.other hne n7)), n2, by rw [al.findClass]; exact n3, n4, n5, fun y c h1 h2 => p15.other h1 (p13.other h1 (by rw [q11]; exact n6 y c h2)), by rw [p15.2.2, p13.2.2, q11]; exact z8⟩, fun fs hl => c16.trans (X15.returnOut hexec hret (hb hbytes d57) hl)⟩
end New4
namespace New1
def yN : MethodName := ⟨"java/lang/String", "<init>", "([C)V"⟩
abbrev yB : ByteArray := jdk_42_method_3_code
theorem d0 : decode yB 0 = .ok (.aload_n 0, 1) := by decide +kernel
theorem d1 : decode yB 1 = .ok (.aload_n 1, 1) := by decide +kernel
theorem d2 : decode yB 2 = .ok (.iconst 0, 1) := by decide +kernel
theorem d3 : decode yB 3 = .ok (.aload_n 1, 1) := by decide +kernel
theorem d4 : decode yB 4 = .ok (.arraylength, 1) := by decide +kernel
theorem d5 : decode yB 5 = .ok (.aconst_null, 1) := by decide +kernel
theorem d6 : decode yB 6 = .ok (.invokespecial 27, 3) := by decide +kernel
theorem d9 : decode yB 9 = .ok (.return_, 1) := by decide +kernel
def site : List Cond := [New4.tab] ++ initW "java/lang/String" 27 New4.yN
def tab : Cond := tabOf yN yB 2 none site
def P (a : Addr) (D : Cell) (fV fC : Field) (b : Addr) (A : Cell) (z : Int32) (args : Array Value) (s : State) : Prop := args = #[.ref a, .ref b] ∧ Blank "java/lang/String" a D s ∧ Found "java/lang/String" "value" "[B" fV s ∧ Found "java/lang/String" "coder" "B" fC s ∧ Ch b A s ∧ StaticIs s "java/lang/String" "COMPACT_STRINGS" "Z" (.int z) ∧ ¬ z = 0 ∧ 0 < A.slots.size ∧ A.slots.size ≤ 536870912 ∧ ∀ i, i < A.slots.size → ¬ 255 < cv A i
def E (a : Addr) (D : Cell) (fV fC : Field) (A : Cell) (r : Option Value) (s u : State) : Prop := Got a D fV fC A 0 A.slots.size r s u
/-- new String(chars), not empty, no char above 255: a Latin-1 String of their low bytes -/
theorem law (l : Launch) (a : Addr) (D : Cell) (fV fC : Field) (b : Addr) (A : Cell) (z : Int32) : Law l yN 2 1 3 52 yB 2 none site (P a D fV fC b A z) (E a D fV fC A) [⟨a, fC.slot⟩, ⟨a, fV.slot⟩] 1 A.slots.size := by
  refine Law.of_walk (plainFor_of_name (by decide +kernel)) (by decide +kernel) (by decide +kernel) (by decide) (fun _ _ h => by rw [h.1]; rfl) (fun _ U U' hal hh h => ⟨h.1, h.2.1.mv hal hh, h.2.2.1.al hal, h.2.2.2.1.al hal, h.2.2.2.2.1.mv hal hh, h.2.2.2.2.2.1.there hal hh, h.2.2.2.2.2.2⟩) (fun r U U' V V' h1 hal h2 h => Got.mv r U U' V V' h1 hal h2 h) ?_
  intro p e s m args below meth c s₁ X0 hexec hbytes hml hret hlk hnm hown hh0 W hP
  obtain ⟨rfl, hB, f1, f2, hA, s1, hz, l0, l2, hp⟩ := hP
  have c1 : Steps p.tables e below (s₁.setTop (entryFrame m #[.ref a, .ref b] 2)) (s₁.setTop (mkF m 0 #[.val (.ref a), .val (.ref b)] [])) := entry rfl
  have c2 : Steps p.tables e below (s₁.setTop (entryFrame m #[.ref a, .ref b] 2)) (s₁.setTop (mkF m 6 #[.val (.ref a), .val (.ref b)] [.null, .int (Int32.ofNat A.slots.size), .int 0, .ref b, .ref a])) := c1.trans (by
    refine XS.aloadN X0.here hexec rfl (hb hbytes d0) rfl rfl ?_
    refine XS.aloadN X0.here hexec rfl (hb hbytes d1) rfl rfl ?_
    refine iconstV X0.here hexec rfl 0 (hb hbytes d2) (by decide) ?_
    refine XS.aloadN X0.here hexec rfl (hb hbytes d3) rfl rfl ?_
    refine X0.alen hexec (hA.1.mv X0.warmed.alike hh0) rfl rfl (hb hbytes d4) ?_
    refine XS.aconstNull X0.here hexec rfl (hb hbytes d5) ?_
    exact Steps.refl _)
  obtain ⟨v3, T3, X3, E3, g3⟩ := X0.callN hexec (New4.law l a D fV fC b A z 0 A.slots.size) rfl hown (wks W (initW "java/lang/String" 27 New4.yN)) (W New4.tab (by simp only [site, List.mem_cons, List.mem_append, true_or, or_true])) (W := 0) (Nat.le_of_ble_eq_true rfl) (Nat.le_of_ble_eq_true rfl) (Nat.le_refl _) (by show 0 + A.slots.size ≤ A.slots.size; omega) (g := (mkF m 6 #[.val (.ref a), .val (.ref b)] [.null, .int (Int32.ofNat A.slots.size), .int (Int32.ofNat 0), .ref b, .ref a])) rfl (by rw [hml]; rfl) c2 (argsL := [.ref b, .int (Int32.ofNat 0), .int (Int32.ofNat A.slots.size), .null]) (rest := []) rfl rfl (by show 2 * 0 + 0 ≤ _; decide) (hb hbytes d6) (⟨rfl, hB.mv X0.warmed.alike hh0, f1.al X0.warmed.alike, f2.al X0.warmed.alike, hA.mv X0.warmed.alike hh0, s1.there X0.warmed.alike hh0, hz, l0, by omega, l2, fun i hi => by rw [Nat.zero_add]; exact hp i hi⟩)
  have e0 := Got.mv _ s₁ s _ _ hh0.symm (Vm.Alike.refl _) rfl E3
  obtain rfl := e0.1
  have c4 : Steps p.tables e below (s₁.setTop (entryFrame m #[.ref a, .ref b] 2)) (T3.setTop (mkF m 9 #[.val (.ref a), .val (.ref b)] [])) := g3
  exact ⟨T3, none, _, _, _, X3, by simp, rfl, by omega, (fun _ => rfl), e0, fun fs hl => c4.trans (X3.returnOut hexec hret (hb hbytes d9) hl)⟩
theorem pays {l : Launch} {R : Room} {p : Program} {e : Env} {below : List Frame} {s : State} {sargs : Array Value} {len W : Nat} (a : Addr) (D : Cell) (fV fC : Field) (b : Addr) (A : Cell) (z : Int32) (htab : tab.before sargs s = true) (hfr : 4 ≤ R.frames) (hlo : W + 65 ≤ R.locals) :
    Back l R p e below s sargs yN len W (fun A₁ a₁ => A₁.cells + 1 ≤ R.cells ∧ A₁.slots + A.slots.size ≤ R.slots ∧ P a D fV fC b A z a₁ A₁.U) (fun A₁ _ v₁ B₁ => E a D fV fC A v₁ A₁.U B₁.U ∧ B₁.locs = A₁.locs ++ [⟨a, fC.slot⟩, ⟨a, fV.slot⟩] ∧ B₁.cells = A₁.cells + 1 ∧ B₁.slots = A₁.slots + A.slots.size) :=
  (law l a D fV fC b A z).pays htab hfr (by omega)
end New1
end StrChars
namespace StrChars.Road
open Jvm Sem ClassFile Op Lib Jvm.Stand Jvm.Free Jvm.Free.XT
open Jvm.Lib.Cold (StaticIs)
abbrev ST : String := "java/lang/String"
/-- every table word that New1's law asks, flat -/
abbrev words : List Jvm.Cond := [.code New1.yN New1.yB 2 none, .initialized ST, .methodLink ST 27 New4.yN, .instanceMethod New4.yN,
  .code New4.yN New4.yB 6 none, .fieldLink ST 38 ST "COMPACT_STRINGS" "Z", .laysFinal ST ST "value" "[B", .fieldLink ST 9 ST "value" "[B", .laysFinal ST ST "coder" "B", .fieldLink ST 15 ST "coder" "B",
  .methodLink ST 1 Lib.objectInit, .instanceMethod Lib.objectInit, .code Lib.objectInit ⟨#[0xb1]⟩ 1 none, .methodLink ST 177 Cmp3.yN, .static Cmp3.yN, .methodLink ST 47 CodL.yN, .static CodL.yN,
  .code Cmp3.yN Cmp3.yB 6 (some (.array .byte)), .initialized U16, .arrayClass .byte, .methodLink U16 115 Cmp5.yN, .static Cmp5.yN, .code Cmp5.yN Cmp5.yB 7 (some .int), .code CodL.yN CodL.yB 2 (some .byte)]
theorem tab_of {a : Array Value} {s : State} (h : ∀ w ∈ words, w.before a s = true) : New1.tab.before a s = true := by
  have h5 : Cmp5.tab.before a s = true := unparts (wk h (.code Cmp5.yN Cmp5.yB 7 (some .int))) (wks h (.initialized Cmp5.yN.cls :: Cmp5.site))
  have hc : CodL.tab.before a s = true := unparts (wk h (.code CodL.yN CodL.yB 2 (some .byte))) (wks h (.initialized CodL.yN.cls :: CodL.site))
  have q5 : ∀ w ∈ Cmp5.tab :: words, w.before a s = true := fun w hw => (List.mem_cons.mp hw).elim (fun e => e ▸ h5) (h w)
  have h3 : Cmp3.tab.before a s = true := unparts (wk q5 (.code Cmp3.yN Cmp3.yB 6 (some (.array .byte)))) (wks q5 (.initialized Cmp3.yN.cls :: Cmp3.site))
  have q3 : ∀ w ∈ Cmp3.tab :: CodL.tab :: words, w.before a s = true := fun w hw => (List.mem_cons.mp hw).elim (fun e => e ▸ h3) fun hw => (List.mem_cons.mp hw).elim (fun e => e ▸ hc) (h w)
  have h4 : New4.tab.before a s = true := unparts (wk q3 (.code New4.yN New4.yB 6 none)) (wks q3 (.initialized New4.yN.cls :: New4.site))
  have q4 : ∀ w ∈ New4.tab :: words, w.before a s = true := fun w hw => (List.mem_cons.mp hw).elim (fun e => e ▸ h4) (h w)
  exact unparts (wk q4 (.code New1.yN New1.yB 2 none)) (wks q4 (.initialized New1.yN.cls :: New1.site))
/-- the words ride from the start Z to the walk's own state -/
theorem moved {Z s : State} {a0 args : Array Value} (hZ : Z.Warmed39 s.vm) (hw : ∀ d ∈ words, d.before a0 Z = true) : ∀ d ∈ words, d.before args s = true := fun d hd => by
  have q := hw d hd
  have t : ∀ d ∈ words, d = .arrayClass .byte ∨ (d.onTables && d.keepsFace) = true := by decide +kernel
  rcases t d hd with rfl | t
  · exact RoadKit.mvA hZ q
  · exact RoadKit.mv hZ q t
/-- WHAT COMES BACK, over the tables of the start Z: h the heap at the call, h' behind it -/
def Q (Z : State) (x : Addr) (A : Cell) (h : Heap) (v : Option Value) (h' : Heap) (L : List Loc) : Prop := v = none ∧ (∀ y ∈ L, y.base = x) ∧ RoadKit.Keep h h' [x] ∧ h'.size = h.size + 1 ∧ RoadKit.Exa Z h' x ST ∧ RoadKit.Fld Z h' x ST "value" "[B" (.ref h.size) ∧ RoadKit.Fld Z h' x ST "coder" "B" (.int 0) ∧
  (∃ V : Cell, RoadKit.Arr Z h' h.size V .byte ∧ V.vm = .none ∧ Z.vm.findClass "[B" = some V.cls ∧ V.slots.size = A.slots.size ∧ ∀ j, j < A.slots.size → V.slots[j]? = some (.int (lo8 (cv A j)))) ∧
  ∀ (O n d : String) (w : Value), RoadKit.Fld Z h x O n d w → RoadKit.slotOf Z O n d ≠ RoadKit.slotOf Z ST "value" "[B" → RoadKit.slotOf Z O n d ≠ RoadKit.slotOf Z ST "coder" "B" → RoadKit.Fld Z h' x O n d w
/-- **new String(chars) AT A CALL, IN THE ROAD'S FORM**: for specialBack behind newO: x the fresh String, b the char[] with the cell A -/
theorem back {p : Program} {l : Launch} {e : Env} {R : Room} {s : State} {args : Array Value} {below : List Frame} {len W : Nat} {Z : State} {a0 : Array Value} {h : Heap} (hZ : Z.Warmed39 s.vm) (hw : ∀ d ∈ words, d.before a0 Z = true) {kI : Nat} (wi : (Jvm.Cond.instantiable ST kI).before a0 Z = true)
    {x b : Addr} {A : Cell} {z : Int32} {v0 c0 : Value} (E : RoadKit.Exa Z h x ST) (V : RoadKit.Fld Z h x ST "value" "[B" v0) (C : RoadKit.Fld Z h x ST "coder" "B" c0) (K : RoadKit.Arr Z h b A .char) (hty : Typed .char A) (S : RoadKit.Sta Z h ST "COMPACT_STRINGS" "Z" (.int z)) (hz : ¬ z = 0)
    (l0 : 0 < A.slots.size) (l2 : A.slots.size ≤ 536870912) (hp : ∀ i, i < A.slots.size → ¬ 255 < cv A i) (hfr : 4 ≤ R.frames) (hlo : W + 65 ≤ R.locals) :
    Back l R p e below s args New1.yN len W (fun P a => a = #[.ref x, .ref b] ∧ P.U.heap = h ∧ P.cells + 1 ≤ R.cells ∧ P.slots + A.slots.size ≤ R.slots)
      (fun P _ v B => ∃ L, Q Z x A h v B.U.heap L ∧ B.locs = P.locs ++ L ∧ B.cells = P.cells + 1 ∧ B.slots = P.slots + A.slots.size) := by
  intro m meth c P g ig mk a X hg hsize hdg hW hn hp'
  obtain ⟨rfl, rfl, r1, r2⟩ := hp'
  have al : Z.vm.Alike P.U.vm := hZ.alike.trans X.warmed.alike
  obtain ⟨D, cfV, kV, iV, fV, hD, gV, stV, knV, obV, asV, slV⟩ := id V
  obtain ⟨D', cfC, kC, iC, fC, hD', gC, stC, -, -, asC, slC⟩ := id C
  cases hD.symm.trans hD'
  obtain ⟨D2, kD, e1, e2, e3, e4, e5⟩ := id E
  cases hD.symm.trans e1
  obtain ⟨c2, k2, i1, i2, i3, -⟩ := Cond.instantiable_spec wi
  cases e2.symm.trans i1
  cases e3.symm.trans i2
  obtain ⟨kU, u1, u2⟩ := al.2.2 _ _ e3
  have hB : Blank ST x D P.U := ⟨hD, ⟨knV, fun q hq => by rw [hq] at obV; cases obV⟩, by rw [al.findClass]; exact e2, kU, u1, by rw [u2]; exact i3, by rw [u2]; exact e5 i3⟩
  have F1 : Found ST "value" "[B" fV P.U := ⟨SBG.found_only al ⟨cfV, kV, iV, gV⟩, stV⟩
  have F2 : Found ST "coder" "B" fC P.U := ⟨SBG.found_only al ⟨cfC, kC, iC, gC⟩, stC⟩
  have hA : Ch b A P.U := ⟨⟨K.1, State.isArrayOf_alike al K.2.1, K.2.2, by omega⟩, hty⟩
  have hS : StaticIs P.U ST "COMPACT_STRINGS" "Z" (.int z) := by
    obtain ⟨cfS, iS, kS, fS, st, cS, t1, t2, t3, t4, t5, t6, t7⟩ := S
    exact StaticIs.there (s := { Z with heap := P.U.heap }) ⟨cfS, iS, kS, fS, st, cS, t1, t2, t3, t4, t5, (fun q => by rw [q] at t6; cases t6), t7⟩ al rfl
  obtain ⟨v, B, X', ⟨⟨hv, E', V', q1, q2, q3, q4, q5, q6, q7, q8, q9, q10, q11⟩, hl, hc, hs⟩, st⟩ := New1.pays x D fV fC b A z (tab_of (moved hZ hw)) hfr hlo m meth c P g ig mk _ X hg hsize hdg hW hn ⟨r1, r2, rfl, hB, F1, F2, hA, hS, hz, l0, l2, hp⟩
  have al' : Z.vm.Alike B.U.vm := hZ.alike.trans X'.warmed.alike
  have hsz : E'.slots.size = D.slots.size := by
    obtain ⟨-, -, -, kB, w1, w2, w3⟩ := q1
    obtain ⟨kB', y1, y2⟩ := al'.2.2 _ _ e3
    rw [q2.2.1] at w1
    cases w1.symm.trans y1
    rw [w3, e5 i3, y2]
  refine ⟨v, B, X', ⟨_, ⟨hv, ?_, ⟨by omega, fun y cy hy hn' => q10 y cy (by simpa using hn') hy, fun y cy hy => ?_⟩, q11, ⟨E', _, q1.1, by rw [q2.2.1]; exact e2, by rw [q2.2.1]; exact e3, by rw [q2.1]; exact obV, fun _ => by rw [hsz]; exact e5 i3⟩,
    ⟨E', cfV, kV, iV, fV, q1.1, gV, stV, by rw [q2.1]; exact knV, by rw [q2.1]; exact obV, by rw [q2.2.1]; exact asV, q3⟩, ⟨E', cfC, kC, iC, fC, q1.1, gC, stC, by rw [q2.1]; exact knV, by rw [q2.1]; exact obV, by rw [q2.2.1]; exact asC, q4⟩,
    ⟨V', ⟨q5.1, State.isArrayOf_alike al'.symm q5.2.1, q5.2.2.1⟩, q6, by rw [← al'.findClass]; exact q7, q8, fun j hj => by have := q9 j hj; rwa [Nat.zero_add] at this⟩, fun O n d w F n1 n2 => ?_⟩, hl, hc, hs⟩, st⟩
  · intro y hy
    simp only [List.mem_cons, List.not_mem_nil, or_false] at hy
    rcases hy with rfl | rfl <;> rfl
  · by_cases q : y = x
    · subst q
      cases hD.symm.trans hy
      exact ⟨E', q1.1, q2.2.1, q2.1, hsz⟩
    · exact ⟨cy, q10 y cy q hy, rfl, rfl, rfl⟩
  · obtain ⟨D3, cf, k, i, f, g1, g2, g3, g4, g5, g6, g7⟩ := F
    cases hD.symm.trans g1
    simp only [RoadKit.slotOf, g2, gV, gC, Option.map_some, Option.getD_some] at n1 n2
    exact ⟨E', cf, k, i, f, q1.1, g2, g3, by rw [q2.1]; exact g4, by rw [q2.1]; exact g5, by rw [q2.2.1]; exact g6, by rw [q2.2.2 f.slot (by simp [n1, n2])]; exact g7⟩
end StrChars.Road
namespace StrChars.Road
open Jvm Sem ClassFile Op Lib Jvm.Stand Jvm.Free Jvm.Free.XT
/-- WHAT COMES BACK, the byte[] as a list of values -/
def QA (Z : State) (x : Addr) (zn : Int32) (cs : List Int32) (h : Heap) (v : Option Value) (h' : Heap) (L : List Loc) : Prop := v = none ∧ (∀ y ∈ L, y.base = x) ∧ RoadKit.Keep h h' [x] ∧ h'.size = h.size + 1 ∧ RoadKit.Exa Z h' x ST ∧ RoadKit.Fld Z h' x ST "value" "[B" (.ref h.size) ∧ RoadKit.Fld Z h' x ST "coder" "B" (.int 0) ∧
  (∃ kb, Z.vm.findClass "[B" = some kb ∧ RoadKit.Arv Z h' h.size kb .byte zn (cs.map fun c => .int (lo8 c)) (.int 0)) ∧
  ∀ (O n d : String) (w : Value), RoadKit.Fld Z h x O n d w → RoadKit.slotOf Z O n d ≠ RoadKit.slotOf Z ST "value" "[B" → RoadKit.slotOf Z O n d ≠ RoadKit.slotOf Z ST "coder" "B" → RoadKit.Fld Z h' x O n d w
/-- **new String(chars) AT A CALL, THE ARRAYS AS LISTS**: the char[] at b holds cs, not empty, no char above 255 -/
theorem backArv {p : Program} {l : Launch} {e : Env} {R : Room} {s : State} {args : Array Value} {below : List Frame} {len W : Nat} {Z : State} {a0 : Array Value} {h : Heap} (hZ : Z.Warmed39 s.vm) (hw : ∀ d ∈ words, d.before a0 Z = true) {kI : Nat} (wi : (Jvm.Cond.instantiable ST kI).before a0 Z = true)
    {x b : Addr} {k : ClassId} {zn z : Int32} {cs : List Int32} {dv v0 c0 : Value} (E : RoadKit.Exa Z h x ST) (V : RoadKit.Fld Z h x ST "value" "[B" v0) (C : RoadKit.Fld Z h x ST "coder" "B" c0) (K : RoadKit.Arv Z h b k .char zn (cs.map Value.int) dv) (S : RoadKit.Sta Z h ST "COMPACT_STRINGS" "Z" (.int z)) (hz : ¬ z = 0)
    (hlen : zn.toNatClampNeg = cs.length) (h0 : 0 < cs.length) (hbig : cs.length ≤ 536870912) (hall : ∀ c ∈ cs, ¬ 255 < c) (hfr : 4 ≤ R.frames) (hlo : W + 65 ≤ R.locals) :
    Back l R p e below s args New1.yN len W (fun P a => a = #[.ref x, .ref b] ∧ P.U.heap = h ∧ P.cells + 1 ≤ R.cells ∧ P.slots + cs.length ≤ R.slots)
      (fun P _ v B => ∃ L, QA Z x zn cs h v B.U.heap L ∧ B.locs = P.locs ++ L ∧ B.cells = P.cells + 1 ∧ B.slots = P.slots + cs.length) := by
  obtain ⟨A, K1, K2, K3, K4, K5, K6⟩ := K
  have e : A.slots.size = cs.length := K3.trans hlen
  have hat : ∀ (i : Nat) (hi : i < cs.length), A.slots[i]? = some (.int cs[i]) := fun i hi => by rw [K5 i (by omega)]; simp [List.getD_eq_getElem?_getD, hi]
  have hcv : ∀ (i : Nat) (hi : i < cs.length), cv A i = cs[i] := fun i hi => by unfold cv; rw [hat i hi]
  have hty : Typed .char A := fun i v hv => by
    have hi : i < A.slots.size := (Array.getElem?_eq_some_iff.mp hv).1
    have q := K5 i hi
    rw [hv] at q
    rw [Option.some.inj q]
    exact K6 i hi
  refine Back.mono (back hZ hw wi E V C K1 hty S hz (by omega) (by omega) (fun i hi => by rw [hcv i (by omega)]; exact hall _ (List.getElem_mem _)) hfr hlo) (fun P a hp => ⟨hp.1, hp.2.1, hp.2.2.1, by rw [e]; exact hp.2.2.2⟩) (fun P a v B hp hq => ?_)
  obtain ⟨L, ⟨q1, q2, q3, q4, q5, q6, q7, ⟨V', v1, v2, v3, v4, v5⟩, q9⟩, hl, hc, hs⟩ := hq
  refine ⟨L, ⟨q1, q2, q3, q4, q5, q6, q7, ⟨V'.cls, v3, V', v1, rfl, by rw [v4, e, hlen], K4, fun i hi => ?_, fun i hi => ?_⟩, q9⟩, hl, hc, by rw [hs, e]⟩
  · have hi' : i < cs.length := by omega
    rw [v5 i (by omega), hcv i hi']; simp [List.getD_eq_getElem?_getD, hi']
  · have hi' : i < cs.length := by omega
    simp only [List.getD_eq_getElem?_getD, List.getElem?_map, List.getElem?_eq_getElem hi', Option.map_some, Option.getD_some]
    exact fits_lo8 _
end StrChars.Road
namespace StrChars.Road
open Jvm Sem ClassFile Op Lib Jvm.Stand Jvm.Free Jvm.Free.XT
/-- WHAT COMES BACK, in the writer's own shape -/
def QV (Z : State) (x : Addr) (N : Int32) (bs : List Int32) (h : Heap) (n0 : Nat) (v : Option Value) (h' : Heap) (L : List Loc) : Prop := v = none ∧ RoadKit.Fr n0 L ∧ RoadKit.Keep h h' [x] ∧ RoadKit.Exa Z h' x ST ∧ RoadKit.Fld Z h' x ST "coder" "B" (.int 0) ∧
  ∃ (t : Addr) (kb : ClassId), n0 ≤ t ∧ h.size ≤ t ∧ ¬ t = x ∧ RoadKit.Fld Z h' x ST "value" "[B" (.ref t) ∧ RoadKit.Arv Z h' t kb .byte N (bs.map Value.int) (.int 0)
/-- **new String(chars) AT A CALL, FOR THE WRITER**: a char[] of n known ints, each 0 to 255 -/
theorem backV {p : Program} {l : Launch} {e : Env} {R : Room} {s : State} {args : Array Value} {below : List Frame} {len W : Nat} {Z : State} {a0 : Array Value} {h : Heap} (hZ : Z.Warmed39 s.vm) (hw : ∀ d ∈ words, d.before a0 Z = true) {kI : Nat} (wi : (Jvm.Cond.instantiable ST kI).before a0 Z = true)
    {x b : Addr} {kC : ClassId} {cs bs : List Int32} {d v0 c0 : Value} {z N : Int32} {n n0 : Nat} (hx0 : n0 ≤ x) (hh0 : n0 ≤ h.size) (E : RoadKit.Exa Z h x ST) (V : RoadKit.Fld Z h x ST "value" "[B" v0) (C : RoadKit.Fld Z h x ST "coder" "B" c0) (K : RoadKit.Arv Z h b kC .char N (cs.map Value.int) d) (S : RoadKit.Sta Z h ST "COMPACT_STRINGS" "Z" (.int z)) (hz : ¬ z = 0)
    (hn : cs.length = n) (hN : N = Int32.ofNat n) (l0 : 0 < n) (l2 : n ≤ 4000) (hp : ∀ c ∈ cs, ¬ c < 0 ∧ ¬ (255 : Int32) < c) (hb : bs = cs.map (fun c => c.toInt8.toInt32)) (hfr : 4 ≤ R.frames) (hlo : W + 65 ≤ R.locals) :
    Back l R p e below s args (⟨"java/lang/String", "<init>", "([C)V"⟩ : MethodName) len W (fun P a => a = #[.ref x, .ref b] ∧ P.U.heap = h ∧ P.cells + 1 ≤ R.cells ∧ P.slots + n ≤ R.slots)
      (fun P _ v B => ∃ L, QV Z x N bs h n0 v B.U.heap L ∧ B.locs = P.locs ++ L ∧ B.cells = P.cells + 1 ∧ B.slots = P.slots + n) := by
  subst hn hN hb
  refine Back.mono (backArv hZ hw wi E V C K S hz (n32 (by omega)) l0 (by omega) (fun c hc => (hp c hc).2) hfr hlo) (fun P a hp => hp) (fun P a v B hp hq => ?_)
  obtain ⟨L, ⟨q1, q2, q3, q4, q5, q6, q7, ⟨kb, v1, v2⟩, q9⟩, hl, hc, hs⟩ := hq
  exact ⟨L, ⟨q1, fun y hy => by rw [q2 y hy]; exact hx0, q3, q5, q7, h.size, kb, hh0, Nat.le_refl _, Nat.ne_of_gt E.lt, q6, by rw [List.map_map]; exact v2⟩, hl, hc, hs⟩
end StrChars.Road
end Jvm.Pilot.@@N@@
namespace Jvm.Pilot.@@N@@
open Jvm Jvm.ClassFile Sem Op Lib Jvm.Free Jvm.Stand Jvm.LawKit Jvm.RoadKit Bundle Jvm.Pilot.@@N@@.Jvm.D
theorem own_go {tb : Tables} {e : Env} {below : List Frame} {A B : State} {P : State → Outcome → Prop} (st : ∀ t, Steps tb e below B t → Steps tb e below A t) (k : ∃ t o, Steps tb e below B t ∧ P t o) : ∃ t o, Steps tb e below A t ∧ P t o := by
  obtain ⟨t, o, h1, h2⟩ := k
  exact ⟨t, o, st t h1, h2⟩
theorem own_goT {tb : Tables} {e : Env} {below : List Frame} {A B : State} {P : State → Outcome → Prop} (st : Steps tb e below A B) (k : ∃ t o, Steps tb e below B t ∧ P t o) : ∃ t o, Steps tb e below A t ∧ P t o := by
  obtain ⟨t, o, h1, h2⟩ := k
  exact ⟨t, o, st.trans h1, h2⟩
theorem own_nfo {args : Array Value} {s : State} {C : String} {x y z : MethodName} (hsel : (Jvm.Cond.selects C x z).before args s = true) (e : z.cls = y.cls) : NotFace s y := fun r0 h0 => by
  obtain ⟨c2, r2, m2, q1, q2, q3, q4, kP, hkP, hkPi⟩ := Cond.selects_spec hsel
  have a1 := findClass_of_methodNamed q3
  have a2 := findClass_of_methodNamed h0
  rw [e] at a1
  have e2 := Option.some.inj (a1.symm.trans a2)
  exact ⟨kP, by rw [← e2]; exact hkP, hkPi⟩
theorem own_keep_le {h h' : Heap} {ws : List Addr} (K : Keep h h' ws) : h.size ≤ h'.size := K.1
theorem own_and255 (x : Int32) : ¬ nar .char ((x &&& (255 : Int32)).toUInt32.toUInt16.toUInt32.toInt32) < 0 ∧ ¬ (255 : Int32) < nar .char ((x &&& (255 : Int32)).toUInt32.toUInt16.toUInt32.toInt32) := by
  have t : ∀ k : Fin 256, ¬ nar .char ((Int32.ofNat k.val).toUInt32.toUInt16.toUInt32.toInt32) < 0 ∧ ¬ (255 : Int32) < nar .char ((Int32.ofNat k.val).toUInt32.toUInt16.toUInt32.toInt32) := by decide +kernel
  have h : (x &&& 255).toBitVec.toNat < 256 := by
    simp only [Int32.toBitVec_and, BitVec.toNat_and]
    exact Nat.lt_succ_of_le Nat.and_le_right
  have e : (x &&& 255) = Int32.ofNat (x &&& 255).toBitVec.toNat := by
    apply Int32.toBitVec_inj.mp
    show _ = BitVec.ofNat 32 _
    rw [BitVec.ofNat_toNat]; simp
  rw [e]
  exact t ⟨_, h⟩
theorem own_up (cs : List Int32) (h : ∀ c ∈ cs, ¬ c < 0 ∧ ¬ (255 : Int32) < c) : ∀ c ∈ cs, ¬ c < 0 ∧ ¬ (65535 : Int32) < c := fun c hc => ⟨(h c hc).1, fun q => (h c hc).2 (by rw [Int32.lt_iff_toInt_lt] at q ⊢; have e1 : (65535 : Int32).toInt = 65535 := rfl; have e2 : (255 : Int32).toInt = 255 := rfl; omega)⟩
theorem own_all0 : ∀ c ∈ ([] : List Int32), ¬ c < 0 ∧ ¬ (255 : Int32) < c := fun _ q => nomatch q
theorem own_allS {x : Int32} {cs : List Int32} (q : ¬ x < 0 ∧ ¬ (255 : Int32) < x) (r : ∀ c ∈ cs, ¬ c < 0 ∧ ¬ (255 : Int32) < c) : ∀ c ∈ x :: cs, ¬ c < 0 ∧ ¬ (255 : Int32) < c := fun c z => (List.mem_cons.mp z).elim (fun u => u ▸ q) (r c)

theorem ef_rmAE (m : MethodId) (x0 : Addr) (x1 : Addr) (x2 : Addr) : entryFrame m #[(.ref x0), (.ref x1), (.ref x2)] 3 = mkF m 0 #[.val (.ref x0), .val (.ref x1), .val (.ref x2)] [] := by first | (simp [entryFrame, mkF, argsToLocals, Value.category]; done) | rfl
theorem d7_0 : decode prog_1_method_1_code 0 = .ok (.aload_n 0, 1) := by decide +kernel
theorem d7_1 : decode prog_1_method_1_code 1 = .ok (.invokespecial 1, 3) := by decide +kernel
theorem d7_4 : decode prog_1_method_1_code 4 = .ok (.aload_n 0, 1) := by decide +kernel
theorem d7_5 : decode prog_1_method_1_code 5 = .ok (.aload_n 1, 1) := by decide +kernel
theorem d7_6 : decode prog_1_method_1_code 6 = .ok (.putfield 7, 3) := by decide +kernel
theorem d7_9 : decode prog_1_method_1_code 9 = .ok (.aload_n 0, 1) := by decide +kernel
theorem d7_10 : decode prog_1_method_1_code 10 = .ok (.aload_n 2, 1) := by decide +kernel
theorem d7_11 : decode prog_1_method_1_code 11 = .ok (.putfield 13, 3) := by decide +kernel
theorem d7_14 : decode prog_1_method_1_code 14 = .ok (.return_, 1) := by decide +kernel
theorem pn_com_example_earnest_roster_earnestroster_ApiError : plainName "com/example/earnest_roster/earnestroster/ApiError" = true := by first | (simp [plainName, overriddenIn]; done) | decide +kernel
def Q_rmAE (Z : State) (a1 : Addr) (s1 : Addr) (s2 : Addr) (h0 : Heap) (n0 : Nat) (v : Option Value) (h : Heap) (L : List Loc) : Prop := v = none ∧ Fr n0 L ∧ Keep h0 h [a1] ∧ Exa Z h a1 "com/example/earnest_roster/earnestroster/ApiError"
set_option maxRecDepth 65536 in
set_option maxHeartbeats 40000000 in
theorem rmAE (l : Launch) (Z : State) (a0 : Array Value) (hw : ∀ d ∈ tables_1, d.before a0 Z = true) (ws : List Jvm.Cond) (a1 : Addr) (s1 : Addr) (s2 : Addr) (h0 : Heap) (n0 : Nat) (Z0 : n0 ≤ h0.size) (P1 : Exa Z h0 a1 "com/example/earnest_roster/earnestroster/ApiError") (P2 : Fld Z h0 a1 "com/example/earnest_roster/earnestroster/ApiError" "code" "Ljava/lang/String;" .null) (P3 : Fld Z h0 a1 "com/example/earnest_roster/earnestroster/ApiError" "message" "Ljava/lang/String;" .null) (OLD : Old Z n0 h0) (ga : n0 ≤ a1) :
    MetFree l (⟨"com/example/earnest_roster/earnestroster/ApiError", "<init>", "(Ljava/lang/String;Ljava/lang/String;)V"⟩ : MethodName) (head1 (Jvm.Cond.code (⟨"com/example/earnest_roster/earnestroster/ApiError", "<init>", "(Ljava/lang/String;Ljava/lang/String;)V"⟩ : MethodName) prog_1_method_1_code 3 none :: ws) ({ frames := 1, cells := 0, slots := 0, locals := 12 } : Room)) (fun a U => a = #[(.ref a1), (.ref s1), (.ref s2)] ∧ Z.Warmed39 U.vm ∧ U.heap = h0) (fun _ _ _ _ _ => True) (fun _ U o U' => ∃ v L, o = .returned v ∧ Q_rmAE Z a1 s1 s2 h0 n0 v U'.heap L ∧ FrameEnd U o U' L ({ frames := 1, cells := 0, slots := 0, locals := 12 } : Room).cells ({ frames := 1, cells := 0, slots := 0, locals := 12 } : Room).slots) := by
  refine MetFree.of_bodySF (plainFor_of_name pn_com_example_earnest_roster_earnestroster_ApiError) hisR ?_
  intro p e s m args below meth c s₁ Bd hml0 hP hK
  obtain ⟨rfl, hZ, hh⟩ := hP
  have hx := Bd.exec
  have hby := Bd.bytes
  have hml : c.maxLocals = 3 := hml0
  have hown : s.vm.findClass "com/example/earnest_roster/earnestroster/ApiError" = some m.cls := findClass_of_methodNamed Bd.named
  have hnm := (name_of_methodNamed Bd.named Bd.method).1
  have X0 : Stand p l e ({ frames := 1, cells := 0, slots := 0, locals := 12 } : Room) s m #[(.ref a1), (.ref s1), (.ref s2)] below meth c s₁ [] 0 0 := Stand.of_body Bd
  have e0 : s₁.heap = h0 := by rw [← hh, Bd.state]; rfl
  have N0 := Fr.nil n0
  have pre0 : ∀ t, Steps p.tables e below (s₁.setTop (mkF m 0 #[.val (.ref a1), .val (.ref s1), .val (.ref s2)] [])) t → Steps p.tables e below (s₁.setTop (entryFrame m #[(.ref a1), (.ref s1), (.ref s2)] 3)) t := fun t k => castTop (ef_rmAE m a1 s1 s2) k
  have oz := OLD.1
  have lt_a1 := P1.lt
  refine own_go (B := s₁.setTop (mkF m 0 #[.val (.ref a1), .val (.ref s1), .val (.ref s2)] [])) pre0 ?_
  show ∃ t o, Steps p.tables e below (s₁.setTop (mkF m 0 #[.val (.ref a1), .val (.ref s1), .val (.ref s2)] [])) t ∧ _
  refine own_go (fun _ => XS.aloadN X0.here hx rfl (hb hby d7_0) rfl rfl) ?_
  show ∃ t o, Steps p.tables e below (s₁.setTop (mkF m 1 #[.val (.ref a1), .val (.ref s1), .val (.ref s2)] [(.ref a1)])) t ∧ _
  obtain ⟨T4, X4, e4, st4⟩ := initO X0 hx hZ hown (hw _ (List.mem_of_getElem? (i := 36) rfl)) (hw _ (List.mem_of_getElem? (i := 12) rfl)) (hw _ (List.mem_of_getElem? (i := 13) rfl)) e0 (g := (mkF m 1 #[.val (.ref a1), .val (.ref s1), .val (.ref s2)] [(.ref a1)])) rfl (by rw [hml]; rfl) rfl (hb hby d7_1) (by decide) (W := 0) (by show 2 * 0 + _ ≤ _; exact Nat.le_of_eq rfl) (by decide)
  refine own_go st4 ?_
  show ∃ t o, Steps p.tables e below (T4.setTop (mkF m 4 #[.val (.ref a1), .val (.ref s1), .val (.ref s2)] [])) t ∧ _
  refine own_go (fun _ => XS.aloadN X4.here hx rfl (hb hby d7_4) rfl rfl) ?_
  show ∃ t o, Steps p.tables e below (T4.setTop (mkF m 5 #[.val (.ref a1), .val (.ref s1), .val (.ref s2)] [(.ref a1)])) t ∧ _
  refine own_go (fun _ => XS.aloadN X4.here hx rfl (hb hby d7_5) rfl rfl) ?_
  show ∃ t o, Steps p.tables e below (T4.setTop (mkF m 6 #[.val (.ref a1), .val (.ref s1), .val (.ref s2)] [(.ref s1), (.ref a1)])) t ∧ _
  obtain ⟨T5, h5, X5, e5, W5, st5⟩ := putF X4 hx hZ hown (host := "") (Or.inl (hw _ (List.mem_of_getElem? (i := 37) rfl))) Via.refl e4 P2 P1 (Or.inr ⟨(hw _ (List.mem_of_getElem? (i := 38) rfl)), rfl, hnm⟩) (hw _ (List.mem_of_getElem? (i := 31) rfl)) (ty := (.object "java/lang/String")) (by decide) rfl rfl (g := (mkF m 6 #[.val (.ref a1), .val (.ref s1), .val (.ref s2)] [(.ref s1), (.ref a1)])) rfl rfl (hb hby d7_6)
  refine own_go st5 ?_
  have le_5 : h0.size ≤ h5.size := Nat.le_of_eq W5.size.symm
  have K5 : Keep h0 h5 [a1] := Keep.wr (Keep.refl h0 [a1]) W5 (Or.inl (List.mem_of_getElem? (i := 0) rfl))
  have N5 := Fr.snoc X5 N0 ga
  have Fw5 := Fld.same W5 P2
  show ∃ t o, Steps p.tables e below (T5.setTop (mkF m 9 #[.val (.ref a1), .val (.ref s1), .val (.ref s2)] [])) t ∧ _
  refine own_go (fun _ => XS.aloadN X5.here hx rfl (hb hby d7_9) rfl rfl) ?_
  show ∃ t o, Steps p.tables e below (T5.setTop (mkF m 10 #[.val (.ref a1), .val (.ref s1), .val (.ref s2)] [(.ref a1)])) t ∧ _
  refine own_go (fun _ => XS.aloadN X5.here hx rfl (hb hby d7_10) rfl rfl) ?_
  show ∃ t o, Steps p.tables e below (T5.setTop (mkF m 11 #[.val (.ref a1), .val (.ref s1), .val (.ref s2)] [(.ref s2), (.ref a1)])) t ∧ _
  have F6 : Exa Z h5 a1 "com/example/earnest_roster/earnestroster/ApiError" := (Exa.wr W5 P1)
  have F7 : Fld Z h5 a1 "com/example/earnest_roster/earnestroster/ApiError" "message" "Ljava/lang/String;" .null := (Fld.other W5 P3 (Or.inr (slot_ne (a0 := a0) (Or.inr (hw _ (List.mem_of_getElem? (i := 40) rfl))) (Or.inr (hw _ (List.mem_of_getElem? (i := 38) rfl))) (by decide) (t := (.object "java/lang/String")) (t' := (.object "java/lang/String")) (by decide) (by decide))))
  obtain ⟨T8, h8, X8, e8, W8, st8⟩ := putF X5 hx hZ hown (host := "") (Or.inl (hw _ (List.mem_of_getElem? (i := 39) rfl))) Via.refl e5 F7 F6 (Or.inr ⟨(hw _ (List.mem_of_getElem? (i := 40) rfl)), rfl, hnm⟩) (hw _ (List.mem_of_getElem? (i := 31) rfl)) (ty := (.object "java/lang/String")) (by decide) rfl rfl (g := (mkF m 11 #[.val (.ref a1), .val (.ref s1), .val (.ref s2)] [(.ref s2), (.ref a1)])) rfl rfl (hb hby d7_11)
  refine own_go st8 ?_
  have le_8 : h5.size ≤ h8.size := Nat.le_of_eq W8.size.symm
  have K8 : Keep h0 h8 [a1] := Keep.wr K5 W8 (Or.inl (List.mem_of_getElem? (i := 0) rfl))
  have N8 := Fr.snoc X8 N5 ga
  have Fw8 := Fld.same W8 F7
  show ∃ t o, Steps p.tables e below (T8.setTop (mkF m 14 #[.val (.ref a1), .val (.ref s1), .val (.ref s2)] [])) t ∧ _
  have F9 : Exa Z h8 a1 "com/example/earnest_roster/earnestroster/ApiError" := (Exa.wr W8 F6)
  obtain ⟨fs, hr, hrun, hended, hW, hsame⟩ := X8.leave (v := none) (fun _ => rfl)
  refine ⟨_, _, ?_, hrun, hended, _, _, rfl, ?_, ⟨_, rfl⟩, hW, hsame.mono (by decide) (by decide)⟩
  · exact X8.returnOut hx Bd.returns (hb hby d7_14) hr
  · show Q_rmAE Z a1 s1 s2 h0 n0 _ T8.heap _
    rw [e8]
    exact ⟨rfl, N8, K8, F9⟩
theorem ef_rmInit (m : MethodId) (x0 : Addr) (x1 : Addr) (x3 : Addr) : entryFrame m #[(.ref x0), (.ref x1), .null, (.ref x3)] 4 = mkF m 0 #[.val (.ref x0), .val (.ref x1), .val .null, .val (.ref x3)] [] := by first | (simp [entryFrame, mkF, argsToLocals, Value.category]; done) | rfl
theorem d9_0 : decode prog_12_method_1_code 0 = .ok (.aload_n 0, 1) := by decide +kernel
theorem d9_1 : decode prog_12_method_1_code 1 = .ok (.invokespecial 1, 3) := by decide +kernel
theorem d9_4 : decode prog_12_method_1_code 4 = .ok (.aload_n 0, 1) := by decide +kernel
theorem d9_5 : decode prog_12_method_1_code 5 = .ok (.aload_n 1, 1) := by decide +kernel
theorem d9_6 : decode prog_12_method_1_code 6 = .ok (.putfield 7, 3) := by decide +kernel
theorem d9_9 : decode prog_12_method_1_code 9 = .ok (.aload_n 0, 1) := by decide +kernel
theorem d9_10 : decode prog_12_method_1_code 10 = .ok (.aload_n 2, 1) := by decide +kernel
theorem d9_11 : decode prog_12_method_1_code 11 = .ok (.putfield 13, 3) := by decide +kernel
theorem d9_14 : decode prog_12_method_1_code 14 = .ok (.aload_n 0, 1) := by decide +kernel
theorem d9_15 : decode prog_12_method_1_code 15 = .ok (.aload_n 3, 1) := by decide +kernel
theorem d9_16 : decode prog_12_method_1_code 16 = .ok (.putfield 17, 3) := by decide +kernel
theorem d9_19 : decode prog_12_method_1_code 19 = .ok (.return_, 1) := by decide +kernel
theorem pn_com_example_earnest_roster_earnestroster_MergeResult : plainName "com/example/earnest_roster/earnestroster/MergeResult" = true := by first | (simp [plainName, overriddenIn]; done) | decide +kernel
def Q_rmInit (Z : State) (a1 : Addr) (wS : Addr) (er : Addr) (h0 : Heap) (n0 : Nat) (v : Option Value) (h : Heap) (L : List Loc) : Prop := v = none ∧ Fr n0 L ∧ Keep h0 h [a1] ∧ Exa Z h a1 "com/example/earnest_roster/earnestroster/MergeResult" ∧ Fld Z h a1 "com/example/earnest_roster/earnestroster/MergeResult" "status" "Lcom/example/earnest_roster/earnestroster/MergeResult$Status;" (.ref wS) ∧ Fld Z h a1 "com/example/earnest_roster/earnestroster/MergeResult" "id" "Ljava/lang/String;" .null ∧ Fld Z h a1 "com/example/earnest_roster/earnestroster/MergeResult" "error" "Lcom/example/earnest_roster/earnestroster/ApiError;" (.ref er)
set_option maxRecDepth 65536 in
set_option maxHeartbeats 40000000 in
theorem rmInit (l : Launch) (Z : State) (a0 : Array Value) (hw : ∀ d ∈ tables_1, d.before a0 Z = true) (ws : List Jvm.Cond) (a1 : Addr) (wS : Addr) (er : Addr) (h0 : Heap) (n0 : Nat) (Z0 : n0 ≤ h0.size) (P1 : Exa Z h0 a1 "com/example/earnest_roster/earnestroster/MergeResult") (P2 : Fld Z h0 a1 "com/example/earnest_roster/earnestroster/MergeResult" "status" "Lcom/example/earnest_roster/earnestroster/MergeResult$Status;" .null) (P3 : Fld Z h0 a1 "com/example/earnest_roster/earnestroster/MergeResult" "id" "Ljava/lang/String;" .null) (P4 : Fld Z h0 a1 "com/example/earnest_roster/earnestroster/MergeResult" "error" "Lcom/example/earnest_roster/earnestroster/ApiError;" .null) (OLD : Old Z n0 h0) (ga : n0 ≤ a1) :
    MetFree l (⟨"com/example/earnest_roster/earnestroster/MergeResult", "<init>", "(Lcom/example/earnest_roster/earnestroster/MergeResult$Status;Ljava/lang/String;Lcom/example/earnest_roster/earnestroster/ApiError;)V"⟩ : MethodName) (head1 (Jvm.Cond.code (⟨"com/example/earnest_roster/earnestroster/MergeResult", "<init>", "(Lcom/example/earnest_roster/earnestroster/MergeResult$Status;Ljava/lang/String;Lcom/example/earnest_roster/earnestroster/ApiError;)V"⟩ : MethodName) prog_12_method_1_code 4 none :: ws) ({ frames := 1, cells := 0, slots := 0, locals := 12 } : Room)) (fun a U => a = #[(.ref a1), (.ref wS), .null, (.ref er)] ∧ Z.Warmed39 U.vm ∧ U.heap = h0) (fun _ _ _ _ _ => True) (fun _ U o U' => ∃ v L, o = .returned v ∧ Q_rmInit Z a1 wS er h0 n0 v U'.heap L ∧ FrameEnd U o U' L ({ frames := 1, cells := 0, slots := 0, locals := 12 } : Room).cells ({ frames := 1, cells := 0, slots := 0, locals := 12 } : Room).slots) := by
  refine MetFree.of_bodySF (plainFor_of_name pn_com_example_earnest_roster_earnestroster_MergeResult) hisR ?_
  intro p e s m args below meth c s₁ Bd hml0 hP hK
  obtain ⟨rfl, hZ, hh⟩ := hP
  have hx := Bd.exec
  have hby := Bd.bytes
  have hml : c.maxLocals = 4 := hml0
  have hown : s.vm.findClass "com/example/earnest_roster/earnestroster/MergeResult" = some m.cls := findClass_of_methodNamed Bd.named
  have hnm := (name_of_methodNamed Bd.named Bd.method).1
  have X0 : Stand p l e ({ frames := 1, cells := 0, slots := 0, locals := 12 } : Room) s m #[(.ref a1), (.ref wS), .null, (.ref er)] below meth c s₁ [] 0 0 := Stand.of_body Bd
  have e0 : s₁.heap = h0 := by rw [← hh, Bd.state]; rfl
  have N0 := Fr.nil n0
  have pre0 : ∀ t, Steps p.tables e below (s₁.setTop (mkF m 0 #[.val (.ref a1), .val (.ref wS), .val .null, .val (.ref er)] [])) t → Steps p.tables e below (s₁.setTop (entryFrame m #[(.ref a1), (.ref wS), .null, (.ref er)] 4)) t := fun t k => castTop (ef_rmInit m a1 wS er) k
  have oz := OLD.1
  have lt_a1 := P1.lt
  refine own_go (B := s₁.setTop (mkF m 0 #[.val (.ref a1), .val (.ref wS), .val .null, .val (.ref er)] [])) pre0 ?_
  show ∃ t o, Steps p.tables e below (s₁.setTop (mkF m 0 #[.val (.ref a1), .val (.ref wS), .val .null, .val (.ref er)] [])) t ∧ _
  refine own_go (fun _ => XS.aloadN X0.here hx rfl (hb hby d9_0) rfl rfl) ?_
  show ∃ t o, Steps p.tables e below (s₁.setTop (mkF m 1 #[.val (.ref a1), .val (.ref wS), .val .null, .val (.ref er)] [(.ref a1)])) t ∧ _
  obtain ⟨T5, X5, e5, st5⟩ := initO X0 hx hZ hown (hw _ (List.mem_of_getElem? (i := 53) rfl)) (hw _ (List.mem_of_getElem? (i := 12) rfl)) (hw _ (List.mem_of_getElem? (i := 13) rfl)) e0 (g := (mkF m 1 #[.val (.ref a1), .val (.ref wS), .val .null, .val (.ref er)] [(.ref a1)])) rfl (by rw [hml]; rfl) rfl (hb hby d9_1) (by decide) (W := 0) (by show 2 * 0 + _ ≤ _; exact Nat.le_of_eq rfl) (by decide)
  refine own_go st5 ?_
  show ∃ t o, Steps p.tables e below (T5.setTop (mkF m 4 #[.val (.ref a1), .val (.ref wS), .val .null, .val (.ref er)] [])) t ∧ _
  refine own_go (fun _ => XS.aloadN X5.here hx rfl (hb hby d9_4) rfl rfl) ?_
  show ∃ t o, Steps p.tables e below (T5.setTop (mkF m 5 #[.val (.ref a1), .val (.ref wS), .val .null, .val (.ref er)] [(.ref a1)])) t ∧ _
  refine own_go (fun _ => XS.aloadN X5.here hx rfl (hb hby d9_5) rfl rfl) ?_
  show ∃ t o, Steps p.tables e below (T5.setTop (mkF m 6 #[.val (.ref a1), .val (.ref wS), .val .null, .val (.ref er)] [(.ref wS), (.ref a1)])) t ∧ _
  obtain ⟨T6, h6, X6, e6, W6, st6⟩ := putF X5 hx hZ hown (host := "") (Or.inl (hw _ (List.mem_of_getElem? (i := 54) rfl))) Via.refl e5 P2 P1 (Or.inr ⟨(hw _ (List.mem_of_getElem? (i := 55) rfl)), rfl, hnm⟩) (hw _ (List.mem_of_getElem? (i := 46) rfl)) (ty := (.object "com/example/earnest_roster/earnestroster/MergeResult$Status")) (by decide) rfl rfl (g := (mkF m 6 #[.val (.ref a1), .val (.ref wS), .val .null, .val (.ref er)] [(.ref wS), (.ref a1)])) rfl rfl (hb hby d9_6)
  refine own_go st6 ?_
  have le_6 : h0.size ≤ h6.size := Nat.le_of_eq W6.size.symm
  have K6 : Keep h0 h6 [a1] := Keep.wr (Keep.refl h0 [a1]) W6 (Or.inl (List.mem_of_getElem? (i := 0) rfl))
  have N6 := Fr.snoc X6 N0 ga
  have Fw6 := Fld.same W6 P2
  show ∃ t o, Steps p.tables e below (T6.setTop (mkF m 9 #[.val (.ref a1), .val (.ref wS), .val .null, .val (.ref er)] [])) t ∧ _
  refine own_go (fun _ => XS.aloadN X6.here hx rfl (hb hby d9_9) rfl rfl) ?_
  show ∃ t o, Steps p.tables e below (T6.setTop (mkF m 10 #[.val (.ref a1), .val (.ref wS), .val .null, .val (.ref er)] [(.ref a1)])) t ∧ _
  refine own_go (fun _ => XS.aloadN X6.here hx rfl (hb hby d9_10) rfl rfl) ?_
  show ∃ t o, Steps p.tables e below (T6.setTop (mkF m 11 #[.val (.ref a1), .val (.ref wS), .val .null, .val (.ref er)] [.null, (.ref a1)])) t ∧ _
  have F7 : Exa Z h6 a1 "com/example/earnest_roster/earnestroster/MergeResult" := (Exa.wr W6 P1)
  have F8 : Fld Z h6 a1 "com/example/earnest_roster/earnestroster/MergeResult" "id" "Ljava/lang/String;" .null := (Fld.other W6 P3 (Or.inr (slot_ne (a0 := a0) (Or.inr (hw _ (List.mem_of_getElem? (i := 57) rfl))) (Or.inr (hw _ (List.mem_of_getElem? (i := 55) rfl))) (by decide) (t := (.object "java/lang/String")) (t' := (.object "com/example/earnest_roster/earnestroster/MergeResult$Status")) (by decide) (by decide))))
  obtain ⟨T9, h9, X9, e9, W9, st9⟩ := putF X6 hx hZ hown (host := "") (Or.inl (hw _ (List.mem_of_getElem? (i := 56) rfl))) Via.refl e6 F8 F7 (Or.inr ⟨(hw _ (List.mem_of_getElem? (i := 57) rfl)), rfl, hnm⟩) (hw _ (List.mem_of_getElem? (i := 46) rfl)) (ty := (.object "java/lang/String")) (by decide) rfl rfl (g := (mkF m 11 #[.val (.ref a1), .val (.ref wS), .val .null, .val (.ref er)] [.null, (.ref a1)])) rfl rfl (hb hby d9_11)
  refine own_go st9 ?_
  have le_9 : h6.size ≤ h9.size := Nat.le_of_eq W9.size.symm
  have K9 : Keep h0 h9 [a1] := Keep.wr K6 W9 (Or.inl (List.mem_of_getElem? (i := 0) rfl))
  have N9 := Fr.snoc X9 N6 ga
  have Fw9 := Fld.same W9 F8
  show ∃ t o, Steps p.tables e below (T9.setTop (mkF m 14 #[.val (.ref a1), .val (.ref wS), .val .null, .val (.ref er)] [])) t ∧ _
  refine own_go (fun _ => XS.aloadN X9.here hx rfl (hb hby d9_14) rfl rfl) ?_
  show ∃ t o, Steps p.tables e below (T9.setTop (mkF m 15 #[.val (.ref a1), .val (.ref wS), .val .null, .val (.ref er)] [(.ref a1)])) t ∧ _
  refine own_go (fun _ => XS.aloadN X9.here hx rfl (hb hby d9_15) rfl rfl) ?_
  show ∃ t o, Steps p.tables e below (T9.setTop (mkF m 16 #[.val (.ref a1), .val (.ref wS), .val .null, .val (.ref er)] [(.ref er), (.ref a1)])) t ∧ _
  have F10 : Exa Z h9 a1 "com/example/earnest_roster/earnestroster/MergeResult" := (Exa.wr W9 F7)
  have F11 : Fld Z h9 a1 "com/example/earnest_roster/earnestroster/MergeResult" "error" "Lcom/example/earnest_roster/earnestroster/ApiError;" .null := (Fld.other W9 (Fld.other W6 P4 (Or.inr (slot_ne (a0 := a0) (Or.inr (hw _ (List.mem_of_getElem? (i := 59) rfl))) (Or.inr (hw _ (List.mem_of_getElem? (i := 55) rfl))) (by decide) (t := (.object "com/example/earnest_roster/earnestroster/ApiError")) (t' := (.object "com/example/earnest_roster/earnestroster/MergeResult$Status")) (by decide) (by decide)))) (Or.inr (slot_ne (a0 := a0) (Or.inr (hw _ (List.mem_of_getElem? (i := 59) rfl))) (Or.inr (hw _ (List.mem_of_getElem? (i := 57) rfl))) (by decide) (t := (.object "com/example/earnest_roster/earnestroster/ApiError")) (t' := (.object "java/lang/String")) (by decide) (by decide))))
  obtain ⟨T12, h12, X12, e12, W12, st12⟩ := putF X9 hx hZ hown (host := "") (Or.inl (hw _ (List.mem_of_getElem? (i := 58) rfl))) Via.refl e9 F11 F10 (Or.inr ⟨(hw _ (List.mem_of_getElem? (i := 59) rfl)), rfl, hnm⟩) (hw _ (List.mem_of_getElem? (i := 46) rfl)) (ty := (.object "com/example/earnest_roster/earnestroster/ApiError")) (by decide) rfl rfl (g := (mkF m 16 #[.val (.ref a1), .val (.ref wS), .val .null, .val (.ref er)] [(.ref er), (.ref a1)])) rfl rfl (hb hby d9_16)
  refine own_go st12 ?_
  have le_12 : h9.size ≤ h12.size := Nat.le_of_eq W12.size.symm
  have K12 : Keep h0 h12 [a1] := Keep.wr K9 W12 (Or.inl (List.mem_of_getElem? (i := 0) rfl))
  have N12 := Fr.snoc X12 N9 ga
  have Fw12 := Fld.same W12 F11
  show ∃ t o, Steps p.tables e below (T12.setTop (mkF m 19 #[.val (.ref a1), .val (.ref wS), .val .null, .val (.ref er)] [])) t ∧ _
  have F13 : Exa Z h12 a1 "com/example/earnest_roster/earnestroster/MergeResult" := (Exa.wr W12 F10)
  have F14 : Fld Z h12 a1 "com/example/earnest_roster/earnestroster/MergeResult" "status" "Lcom/example/earnest_roster/earnestroster/MergeResult$Status;" (.ref wS) := (Fld.other W12 (Fld.other W9 Fw6 (Or.inr (slot_ne (a0 := a0) (Or.inr (hw _ (List.mem_of_getElem? (i := 55) rfl))) (Or.inr (hw _ (List.mem_of_getElem? (i := 57) rfl))) (by decide) (t := (.object "com/example/earnest_roster/earnestroster/MergeResult$Status")) (t' := (.object "java/lang/String")) (by decide) (by decide)))) (Or.inr (slot_ne (a0 := a0) (Or.inr (hw _ (List.mem_of_getElem? (i := 55) rfl))) (Or.inr (hw _ (List.mem_of_getElem? (i := 59) rfl))) (by decide) (t := (.object "com/example/earnest_roster/earnestroster/MergeResult$Status")) (t' := (.object "com/example/earnest_roster/earnestroster/ApiError")) (by decide) (by decide))))
  have F15 : Fld Z h12 a1 "com/example/earnest_roster/earnestroster/MergeResult" "id" "Ljava/lang/String;" .null := (Fld.other W12 Fw9 (Or.inr (slot_ne (a0 := a0) (Or.inr (hw _ (List.mem_of_getElem? (i := 57) rfl))) (Or.inr (hw _ (List.mem_of_getElem? (i := 59) rfl))) (by decide) (t := (.object "java/lang/String")) (t' := (.object "com/example/earnest_roster/earnestroster/ApiError")) (by decide) (by decide))))
  obtain ⟨fs, hr, hrun, hended, hW, hsame⟩ := X12.leave (v := none) (fun _ => rfl)
  refine ⟨_, _, ?_, hrun, hended, _, _, rfl, ?_, ⟨_, rfl⟩, hW, hsame.mono (by decide) (by decide)⟩
  · exact X12.returnOut hx Bd.returns (hb hby d9_19) hr
  · show Q_rmInit Z a1 wS er h0 n0 _ T12.heap _
    rw [e12]
    exact ⟨rfl, N12, K12, F13, F14, F15, Fw12⟩
theorem ef_rmRej (m : MethodId) (x0 : Addr) : entryFrame m #[(.ref x0)] 1 = mkF m 0 #[.val (.ref x0)] [] := by first | (simp [entryFrame, mkF, argsToLocals, Value.category]; done) | rfl
theorem d8_0 : decode prog_12_method_4_code 0 = .ok (.new 8, 3) := by decide +kernel
theorem d8_3 : decode prog_12_method_4_code 3 = .ok (.dup, 1) := by decide +kernel
theorem d8_4 : decode prog_12_method_4_code 4 = .ok (.getstatic 29, 3) := by decide +kernel
theorem d8_7 : decode prog_12_method_4_code 7 = .ok (.aconst_null, 1) := by decide +kernel
theorem d8_8 : decode prog_12_method_4_code 8 = .ok (.aload_n 0, 1) := by decide +kernel
theorem d8_9 : decode prog_12_method_4_code 9 = .ok (.invokespecial 21, 3) := by decide +kernel
theorem pd_h59be610d : parseMethodDescriptor "(Lcom/example/earnest_roster/earnestroster/MergeResult$Status;Ljava/lang/String;Lcom/example/earnest_roster/earnestroster/ApiError;)V" = some ⟨[(.object "com/example/earnest_roster/earnestroster/MergeResult$Status"), (.object "java/lang/String"), (.object "com/example/earnest_roster/earnestroster/ApiError")], none⟩ := by decide +kernel
theorem d8_12 : decode prog_12_method_4_code 12 = .ok (.areturn, 1) := by decide +kernel
def Q_rmRej (Z : State) (er : Addr) (wS : Addr) (h0 : Heap) (n0 : Nat) (v : Option Value) (h : Heap) (L : List Loc) : Prop := ∃ (b : Addr), v = some (.ref b) ∧ Fr n0 L ∧ Keep h0 h [] ∧ Exa Z h b "com/example/earnest_roster/earnestroster/MergeResult" ∧ Fld Z h b "com/example/earnest_roster/earnestroster/MergeResult" "status" "Lcom/example/earnest_roster/earnestroster/MergeResult$Status;" (.ref wS) ∧ Fld Z h b "com/example/earnest_roster/earnestroster/MergeResult" "id" "Ljava/lang/String;" .null ∧ Fld Z h b "com/example/earnest_roster/earnestroster/MergeResult" "error" "Lcom/example/earnest_roster/earnestroster/ApiError;" (.ref er) ∧ (h0.size ≤ b)
set_option maxRecDepth 65536 in
set_option maxHeartbeats 40000000 in
theorem rmRej (l : Launch) (Z : State) (a0 : Array Value) (hw : ∀ d ∈ tables_1, d.before a0 Z = true) (ws : List Jvm.Cond) (er : Addr) (wS : Addr) (h0 : Heap) (n0 : Nat) (Z0 : n0 ≤ h0.size) (OLD : Old Z n0 h0) (P1 : Sta Z Z.heap "com/example/earnest_roster/earnestroster/MergeResult$Status" "REJECTED" "Lcom/example/earnest_roster/earnestroster/MergeResult$Status;" (.ref wS)) :
    MetFree l (⟨"com/example/earnest_roster/earnestroster/MergeResult", "rejected", "(Lcom/example/earnest_roster/earnestroster/ApiError;)Lcom/example/earnest_roster/earnestroster/MergeResult;"⟩ : MethodName) (head1 (Jvm.Cond.code (⟨"com/example/earnest_roster/earnestroster/MergeResult", "rejected", "(Lcom/example/earnest_roster/earnestroster/ApiError;)Lcom/example/earnest_roster/earnestroster/MergeResult;"⟩ : MethodName) prog_12_method_4_code 1 (some (.object "com/example/earnest_roster/earnestroster/MergeResult")) :: ws) ({ frames := 2, cells := 1, slots := 3, locals := 28 } : Room)) (fun a U => a = #[(.ref er)] ∧ Z.Warmed39 U.vm ∧ U.heap = h0) (fun _ _ _ _ _ => True) (fun _ U o U' => ∃ v L, o = .returned v ∧ Q_rmRej Z er wS h0 n0 v U'.heap L ∧ FrameEnd U o U' L ({ frames := 2, cells := 1, slots := 3, locals := 28 } : Room).cells ({ frames := 2, cells := 1, slots := 3, locals := 28 } : Room).slots) := by
  refine MetFree.of_bodySF (plainFor_of_name pn_com_example_earnest_roster_earnestroster_MergeResult) hisR ?_
  intro p e s m args below meth c s₁ Bd hml0 hP hK
  obtain ⟨rfl, hZ, hh⟩ := hP
  have hx := Bd.exec
  have hby := Bd.bytes
  have hml : c.maxLocals = 1 := hml0
  have hown : s.vm.findClass "com/example/earnest_roster/earnestroster/MergeResult" = some m.cls := findClass_of_methodNamed Bd.named
  have hnm := (name_of_methodNamed Bd.named Bd.method).1
  have X0 : Stand p l e ({ frames := 2, cells := 1, slots := 3, locals := 28 } : Room) s m #[(.ref er)] below meth c s₁ [] 0 0 := Stand.of_body Bd
  have e0 : s₁.heap = h0 := by rw [← hh, Bd.state]; rfl
  have N0 := Fr.nil n0
  have pre0 : ∀ t, Steps p.tables e below (s₁.setTop (mkF m 0 #[.val (.ref er)] [])) t → Steps p.tables e below (s₁.setTop (entryFrame m #[(.ref er)] 1)) t := fun t k => castTop (ef_rmRej m er) k
  have oz := OLD.1
  refine own_go (B := s₁.setTop (mkF m 0 #[.val (.ref er)] [])) pre0 ?_
  show ∃ t o, Steps p.tables e below (s₁.setTop (mkF m 0 #[.val (.ref er)] [])) t ∧ _
  obtain ⟨T2, h2, X2, e2, E2, A2, D2, -, st2⟩ := newO X0 hx hZ hown (hw _ (List.mem_of_getElem? (i := 45) rfl)) (hw _ (List.mem_of_getElem? (i := 46) rfl)) (hw _ (List.mem_of_getElem? (i := 43) rfl)) e0 (g := (mkF m 0 #[.val (.ref er)] [])) rfl (hb hby d8_0) (by decide) (by decide)
  obtain ⟨b2, g2⟩ : ∃ z, z = h0.size := ⟨_, rfl⟩
  rw [← g2] at A2 D2 st2
  refine own_go st2 ?_
  have le_2 : h0.size ≤ h2.size := E2.1
  have lt_b2 : b2 < h2.size := A2.lt
  have F_status_b2 : Fld Z h2 b2 "com/example/earnest_roster/earnestroster/MergeResult" "status" "Lcom/example/earnest_roster/earnestroster/MergeResult$Status;" .null := D2 (Or.inr (hw _ (List.mem_of_getElem? (i := 55) rfl))) (ty := (.object "com/example/earnest_roster/earnestroster/MergeResult$Status")) (by decide)
  have F_id_b2 : Fld Z h2 b2 "com/example/earnest_roster/earnestroster/MergeResult" "id" "Ljava/lang/String;" .null := D2 (Or.inr (hw _ (List.mem_of_getElem? (i := 57) rfl))) (ty := (.object "java/lang/String")) (by decide)
  have F_error_b2 : Fld Z h2 b2 "com/example/earnest_roster/earnestroster/MergeResult" "error" "Lcom/example/earnest_roster/earnestroster/ApiError;" .null := D2 (Or.inr (hw _ (List.mem_of_getElem? (i := 59) rfl))) (ty := (.object "com/example/earnest_roster/earnestroster/ApiError")) (by decide)
  have K2 : Keep h0 h2 [] := Keep.ext (Keep.refl h0 []) E2
  show ∃ t o, Steps p.tables e below (T2.setTop (mkF m 3 #[.val (.ref er)] [(.ref b2)])) t ∧ _
  refine own_go (fun _ => XS.dup X2.here hx rfl (hb hby d8_3) rfl rfl) ?_
  show ∃ t o, Steps p.tables e below (T2.setTop (mkF m 4 #[.val (.ref er)] [(.ref b2), (.ref b2)])) t ∧ _
  have F3 : Old Z n0 h2 := (OLD.ext E2)
  obtain ⟨T4, X4, e4, st4⟩ := getS2 X2 hx hZ hown (host := "") (Or.inl (hw _ (List.mem_of_getElem? (i := 47) rfl))) Via.refl e2 (Sta.ext F3.2 P1) (g := (mkF m 4 #[.val (.ref er)] [(.ref b2), (.ref b2)])) rfl (hb hby d8_4)
  refine own_go st4 ?_
  show ∃ t o, Steps p.tables e below (T4.setTop (mkF m 7 #[.val (.ref er)] [(.ref wS), (.ref b2), (.ref b2)])) t ∧ _
  refine own_go (fun _ => XS.aconstNull X4.here hx rfl (hb hby d8_7)) ?_
  show ∃ t o, Steps p.tables e below (T4.setTop (mkF m 8 #[.val (.ref er)] [.null, (.ref wS), (.ref b2), (.ref b2)])) t ∧ _
  refine own_go (fun _ => XS.aloadN X4.here hx rfl (hb hby d8_8) rfl rfl) ?_
  show ∃ t o, Steps p.tables e below (T4.setTop (mkF m 9 #[.val (.ref er)] [(.ref er), .null, (.ref wS), (.ref b2), (.ref b2)])) t ∧ _
  have ge5 : n0 ≤ b2 := by omega
  have zl6 : n0 ≤ h2.size := by omega
  obtain ⟨_, _, ⟨T7, L7, k7, n7⟩, -, X7, ⟨Lc7, hQ7, l7, y7, z7⟩, st7⟩ := X4.specialBack hx (y := (⟨"com/example/earnest_roster/earnestroster/MergeResult", "<init>", "(Lcom/example/earnest_roster/earnestroster/MergeResult$Status;Ljava/lang/String;Lcom/example/earnest_roster/earnestroster/ApiError;)V"⟩ : MethodName)) rfl hown (mvT hZ (hw _ (List.mem_of_getElem? (i := 50) rfl))) (mvT hZ (hw _ (List.mem_of_getElem? (i := 51) rfl))) (mvT hZ (hw _ (List.mem_of_getElem? (i := 52) rfl))) (by decide) (backOf (W := 1) (rmInit l Z a0 hw [] b2 wS er h2 n0 zl6 A2 F_status_b2 F_id_b2 F_error_b2 F3 ge5) hZ (hw _ (List.mem_of_getElem? (i := 52) rfl)) (hw _ (List.mem_of_getElem? (i := 43) rfl)) (by decide) (by decide)) (g := (mkF m 9 #[.val (.ref er)] [(.ref er), .null, (.ref wS), (.ref b2), (.ref b2)])) rfl (by rw [hml]; rfl) (Steps.refl _) (a := b2) (argsL := [(.ref wS), .null, (.ref er)]) (rest := [(.ref b2)]) (lenOf pd_h59be610d rfl) rfl (by show 2 * 0 + _ ≤ _; exact Nat.le_of_eq rfl) (hb hby d8_9) (fun _ _ => ⟨rfl, e4, (by decide : 1 + 0 ≤ _), (by decide : 3 + 0 ≤ _)⟩)
  dsimp only [Pt.U, Pt.locs, Pt.cells, Pt.slots] at X7 l7 y7 z7 st7 hQ7
  subst l7 y7 z7
  obtain ⟨rfl, Nq7, Kp7, G7_0, G7_1, G7_2, G7_3⟩ := hQ7
  have N7 := Fr.app N0 Nq7
  refine own_goT st7 ?_
  have le_7 : h2.size ≤ T7.heap.size := Kp7.1
  have sz8 : h0.size ≤ b2 := by omega
  have K7 : Keep h0 T7.heap [] := Keep.trans K2 Kp7 (allS (Or.inr sz8) all0)
  show ∃ t o, Steps p.tables e below (T7.setTop (mkF m 12 #[.val (.ref er)] [(.ref b2)])) t ∧ _
  obtain ⟨fs, hr, hrun, hended, hW, hsame⟩ := X7.leave (v := some (.ref b2)) (fun h => by rw [Bd.returns] at h; cases h)
  refine ⟨_, _, ?_, hrun, hended, _, _, rfl, ?_, ⟨_, rfl⟩, hW, hsame.mono (by decide) (by decide)⟩
  · jvm_step X7.here [X7.here.top, hx, (hb hby d8_12), X7.method', Bd.returns, Value.isRef, FieldType.isReference]
    first | (intro acts; rw [hr _ acts rfl rfl rfl]) | rw [hr _ _ rfl rfl rfl]
    exact Steps.refl _
  · show Q_rmRej Z er wS h0 n0 _ T7.heap _
    exact ⟨b2, rfl, N7, K7, G7_0, G7_1, G7_2, G7_3, (by omega)⟩
theorem ef_rmGetS (m : MethodId) (x0 : Addr) : entryFrame m #[(.ref x0)] 1 = mkF m 0 #[.val (.ref x0)] [] := by first | (simp [entryFrame, mkF, argsToLocals, Value.category]; done) | rfl
theorem d10_0 : decode prog_12_method_5_code 0 = .ok (.aload_n 0, 1) := by decide +kernel
theorem d10_1 : decode prog_12_method_5_code 1 = .ok (.getfield 7, 3) := by decide +kernel
theorem d10_4 : decode prog_12_method_5_code 4 = .ok (.areturn, 1) := by decide +kernel
def Q_rmGetS (Z : State) (a1 : Addr) (wS : Addr) (h0 : Heap) (n0 : Nat) (v : Option Value) (h : Heap) (L : List Loc) : Prop := v = some (.ref wS) ∧ Fr n0 L ∧ h = h0
set_option maxRecDepth 65536 in
set_option maxHeartbeats 40000000 in
theorem rmGetS (l : Launch) (Z : State) (a0 : Array Value) (hw : ∀ d ∈ tables_1, d.before a0 Z = true) (ws : List Jvm.Cond) (a1 : Addr) (wS : Addr) (h0 : Heap) (n0 : Nat) (Z0 : n0 ≤ h0.size) (P1 : Fld Z h0 a1 "com/example/earnest_roster/earnestroster/MergeResult" "status" "Lcom/example/earnest_roster/earnestroster/MergeResult$Status;" (.ref wS)) (OLD : Old Z n0 h0) :
    MetFree l (⟨"com/example/earnest_roster/earnestroster/MergeResult", "getStatus", "()Lcom/example/earnest_roster/earnestroster/MergeResult$Status;"⟩ : MethodName) (head1 (Jvm.Cond.code (⟨"com/example/earnest_roster/earnestroster/MergeResult", "getStatus", "()Lcom/example/earnest_roster/earnestroster/MergeResult$Status;"⟩ : MethodName) prog_12_method_5_code 1 (some (.object "com/example/earnest_roster/earnestroster/MergeResult$Status")) :: ws) ({ frames := 0, cells := 0, slots := 0, locals := 0 } : Room)) (fun a U => a = #[(.ref a1)] ∧ Z.Warmed39 U.vm ∧ U.heap = h0) (fun _ _ _ _ _ => True) (fun _ U o U' => ∃ v L, o = .returned v ∧ Q_rmGetS Z a1 wS h0 n0 v U'.heap L ∧ FrameEnd U o U' L ({ frames := 0, cells := 0, slots := 0, locals := 0 } : Room).cells ({ frames := 0, cells := 0, slots := 0, locals := 0 } : Room).slots) := by
  refine MetFree.of_bodySF (plainFor_of_name pn_com_example_earnest_roster_earnestroster_MergeResult) hisR ?_
  intro p e s m args below meth c s₁ Bd hml0 hP hK
  obtain ⟨rfl, hZ, hh⟩ := hP
  have hx := Bd.exec
  have hby := Bd.bytes
  have hml : c.maxLocals = 1 := hml0
  have hown : s.vm.findClass "com/example/earnest_roster/earnestroster/MergeResult" = some m.cls := findClass_of_methodNamed Bd.named
  have hnm := (name_of_methodNamed Bd.named Bd.method).1
  have X0 : Stand p l e ({ frames := 0, cells := 0, slots := 0, locals := 0 } : Room) s m #[(.ref a1)] below meth c s₁ [] 0 0 := Stand.of_body Bd
  have e0 : s₁.heap = h0 := by rw [← hh, Bd.state]; rfl
  have N0 := Fr.nil n0
  have pre0 : ∀ t, Steps p.tables e below (s₁.setTop (mkF m 0 #[.val (.ref a1)] [])) t → Steps p.tables e below (s₁.setTop (entryFrame m #[(.ref a1)] 1)) t := fun t k => castTop (ef_rmGetS m a1) k
  have oz := OLD.1
  have lt_a1 := P1.lt
  refine own_go (B := s₁.setTop (mkF m 0 #[.val (.ref a1)] [])) pre0 ?_
  show ∃ t o, Steps p.tables e below (s₁.setTop (mkF m 0 #[.val (.ref a1)] [])) t ∧ _
  refine own_go (fun _ => XS.aloadN X0.here hx rfl (hb hby d10_0) rfl rfl) ?_
  show ∃ t o, Steps p.tables e below (s₁.setTop (mkF m 1 #[.val (.ref a1)] [(.ref a1)])) t ∧ _
  obtain ⟨T2, X2, e2, st2⟩ := getF X0 hx hZ hown (host := "") (Or.inl (hw _ (List.mem_of_getElem? (i := 54) rfl))) Via.refl e0 P1 (g := (mkF m 1 #[.val (.ref a1)] [(.ref a1)])) rfl rfl (hb hby d10_1)
  refine own_go st2 ?_
  show ∃ t o, Steps p.tables e below (T2.setTop (mkF m 4 #[.val (.ref a1)] [(.ref wS)])) t ∧ _
  obtain ⟨fs, hr, hrun, hended, hW, hsame⟩ := X2.leave (v := some (.ref wS)) (fun h => by rw [Bd.returns] at h; cases h)
  refine ⟨_, _, ?_, hrun, hended, _, _, rfl, ?_, ⟨_, rfl⟩, hW, hsame.mono (by decide) (by decide)⟩
  · jvm_step X2.here [X2.here.top, hx, (hb hby d10_4), X2.method', Bd.returns, Value.isRef, FieldType.isReference]
    first | (intro acts; rw [hr _ acts rfl rfl rfl]) | rw [hr _ _ rfl rfl rfl]
    exact Steps.refl _
  · show Q_rmGetS Z a1 wS h0 n0 _ T2.heap _
    rw [e2]
    exact ⟨rfl, N0, rfl⟩
theorem ef_rmGetI (m : MethodId) (x0 : Addr) : entryFrame m #[(.ref x0)] 1 = mkF m 0 #[.val (.ref x0)] [] := by first | (simp [entryFrame, mkF, argsToLocals, Value.category]; done) | rfl
theorem d11_0 : decode prog_12_method_6_code 0 = .ok (.aload_n 0, 1) := by decide +kernel
theorem d11_1 : decode prog_12_method_6_code 1 = .ok (.getfield 13, 3) := by decide +kernel
theorem d11_4 : decode prog_12_method_6_code 4 = .ok (.areturn, 1) := by decide +kernel
def Q_rmGetI (Z : State) (a1 : Addr) (h0 : Heap) (n0 : Nat) (v : Option Value) (h : Heap) (L : List Loc) : Prop := v = some .null ∧ Fr n0 L ∧ h = h0
set_option maxRecDepth 65536 in
set_option maxHeartbeats 40000000 in
theorem rmGetI (l : Launch) (Z : State) (a0 : Array Value) (hw : ∀ d ∈ tables_1, d.before a0 Z = true) (ws : List Jvm.Cond) (a1 : Addr) (h0 : Heap) (n0 : Nat) (Z0 : n0 ≤ h0.size) (P1 : Fld Z h0 a1 "com/example/earnest_roster/earnestroster/MergeResult" "id" "Ljava/lang/String;" .null) (OLD : Old Z n0 h0) :
    MetFree l (⟨"com/example/earnest_roster/earnestroster/MergeResult", "getId", "()Ljava/lang/String;"⟩ : MethodName) (head1 (Jvm.Cond.code (⟨"com/example/earnest_roster/earnestroster/MergeResult", "getId", "()Ljava/lang/String;"⟩ : MethodName) prog_12_method_6_code 1 (some (.object "java/lang/String")) :: ws) ({ frames := 0, cells := 0, slots := 0, locals := 0 } : Room)) (fun a U => a = #[(.ref a1)] ∧ Z.Warmed39 U.vm ∧ U.heap = h0) (fun _ _ _ _ _ => True) (fun _ U o U' => ∃ v L, o = .returned v ∧ Q_rmGetI Z a1 h0 n0 v U'.heap L ∧ FrameEnd U o U' L ({ frames := 0, cells := 0, slots := 0, locals := 0 } : Room).cells ({ frames := 0, cells := 0, slots := 0, locals := 0 } : Room).slots) := by
  refine MetFree.of_bodySF (plainFor_of_name pn_com_example_earnest_roster_earnestroster_MergeResult) hisR ?_
  intro p e s m args below meth c s₁ Bd hml0 hP hK
  obtain ⟨rfl, hZ, hh⟩ := hP
  have hx := Bd.exec
  have hby := Bd.bytes
  have hml : c.maxLocals = 1 := hml0
  have hown : s.vm.findClass "com/example/earnest_roster/earnestroster/MergeResult" = some m.cls := findClass_of_methodNamed Bd.named
  have hnm := (name_of_methodNamed Bd.named Bd.method).1
  have X0 : Stand p l e ({ frames := 0, cells := 0, slots := 0, locals := 0 } : Room) s m #[(.ref a1)] below meth c s₁ [] 0 0 := Stand.of_body Bd
  have e0 : s₁.heap = h0 := by rw [← hh, Bd.state]; rfl
  have N0 := Fr.nil n0
  have pre0 : ∀ t, Steps p.tables e below (s₁.setTop (mkF m 0 #[.val (.ref a1)] [])) t → Steps p.tables e below (s₁.setTop (entryFrame m #[(.ref a1)] 1)) t := fun t k => castTop (ef_rmGetI m a1) k
  have oz := OLD.1
  have lt_a1 := P1.lt
  refine own_go (B := s₁.setTop (mkF m 0 #[.val (.ref a1)] [])) pre0 ?_
  show ∃ t o, Steps p.tables e below (s₁.setTop (mkF m 0 #[.val (.ref a1)] [])) t ∧ _
  refine own_go (fun _ => XS.aloadN X0.here hx rfl (hb hby d11_0) rfl rfl) ?_
  show ∃ t o, Steps p.tables e below (s₁.setTop (mkF m 1 #[.val (.ref a1)] [(.ref a1)])) t ∧ _
  obtain ⟨T2, X2, e2, st2⟩ := getF X0 hx hZ hown (host := "") (Or.inl (hw _ (List.mem_of_getElem? (i := 56) rfl))) Via.refl e0 P1 (g := (mkF m 1 #[.val (.ref a1)] [(.ref a1)])) rfl rfl (hb hby d11_1)
  refine own_go st2 ?_
  show ∃ t o, Steps p.tables e below (T2.setTop (mkF m 4 #[.val (.ref a1)] [.null])) t ∧ _
  obtain ⟨fs, hr, hrun, hended, hW, hsame⟩ := X2.leave (v := some .null) (fun h => by rw [Bd.returns] at h; cases h)
  refine ⟨_, _, ?_, hrun, hended, _, _, rfl, ?_, ⟨_, rfl⟩, hW, hsame.mono (by decide) (by decide)⟩
  · jvm_step X2.here [X2.here.top, hx, (hb hby d11_4), X2.method', Bd.returns, Value.isRef, FieldType.isReference]
    first | (intro acts; rw [hr _ acts rfl rfl rfl]) | rw [hr _ _ rfl rfl rfl]
    exact Steps.refl _
  · show Q_rmGetI Z a1 h0 n0 _ T2.heap _
    rw [e2]
    exact ⟨rfl, N0, rfl⟩
theorem ef_rmGetE (m : MethodId) (x0 : Addr) : entryFrame m #[(.ref x0)] 1 = mkF m 0 #[.val (.ref x0)] [] := by first | (simp [entryFrame, mkF, argsToLocals, Value.category]; done) | rfl
theorem d12_0 : decode prog_12_method_7_code 0 = .ok (.aload_n 0, 1) := by decide +kernel
theorem d12_1 : decode prog_12_method_7_code 1 = .ok (.getfield 17, 3) := by decide +kernel
theorem d12_4 : decode prog_12_method_7_code 4 = .ok (.areturn, 1) := by decide +kernel
def Q_rmGetE (Z : State) (a1 : Addr) (er : Addr) (h0 : Heap) (n0 : Nat) (v : Option Value) (h : Heap) (L : List Loc) : Prop := v = some (.ref er) ∧ Fr n0 L ∧ h = h0
set_option maxRecDepth 65536 in
set_option maxHeartbeats 40000000 in
theorem rmGetE (l : Launch) (Z : State) (a0 : Array Value) (hw : ∀ d ∈ tables_1, d.before a0 Z = true) (ws : List Jvm.Cond) (a1 : Addr) (er : Addr) (h0 : Heap) (n0 : Nat) (Z0 : n0 ≤ h0.size) (P1 : Fld Z h0 a1 "com/example/earnest_roster/earnestroster/MergeResult" "error" "Lcom/example/earnest_roster/earnestroster/ApiError;" (.ref er)) (OLD : Old Z n0 h0) :
    MetFree l (⟨"com/example/earnest_roster/earnestroster/MergeResult", "getError", "()Lcom/example/earnest_roster/earnestroster/ApiError;"⟩ : MethodName) (head1 (Jvm.Cond.code (⟨"com/example/earnest_roster/earnestroster/MergeResult", "getError", "()Lcom/example/earnest_roster/earnestroster/ApiError;"⟩ : MethodName) prog_12_method_7_code 1 (some (.object "com/example/earnest_roster/earnestroster/ApiError")) :: ws) ({ frames := 0, cells := 0, slots := 0, locals := 0 } : Room)) (fun a U => a = #[(.ref a1)] ∧ Z.Warmed39 U.vm ∧ U.heap = h0) (fun _ _ _ _ _ => True) (fun _ U o U' => ∃ v L, o = .returned v ∧ Q_rmGetE Z a1 er h0 n0 v U'.heap L ∧ FrameEnd U o U' L ({ frames := 0, cells := 0, slots := 0, locals := 0 } : Room).cells ({ frames := 0, cells := 0, slots := 0, locals := 0 } : Room).slots) := by
  refine MetFree.of_bodySF (plainFor_of_name pn_com_example_earnest_roster_earnestroster_MergeResult) hisR ?_
  intro p e s m args below meth c s₁ Bd hml0 hP hK
  obtain ⟨rfl, hZ, hh⟩ := hP
  have hx := Bd.exec
  have hby := Bd.bytes
  have hml : c.maxLocals = 1 := hml0
  have hown : s.vm.findClass "com/example/earnest_roster/earnestroster/MergeResult" = some m.cls := findClass_of_methodNamed Bd.named
  have hnm := (name_of_methodNamed Bd.named Bd.method).1
  have X0 : Stand p l e ({ frames := 0, cells := 0, slots := 0, locals := 0 } : Room) s m #[(.ref a1)] below meth c s₁ [] 0 0 := Stand.of_body Bd
  have e0 : s₁.heap = h0 := by rw [← hh, Bd.state]; rfl
  have N0 := Fr.nil n0
  have pre0 : ∀ t, Steps p.tables e below (s₁.setTop (mkF m 0 #[.val (.ref a1)] [])) t → Steps p.tables e below (s₁.setTop (entryFrame m #[(.ref a1)] 1)) t := fun t k => castTop (ef_rmGetE m a1) k
  have oz := OLD.1
  have lt_a1 := P1.lt
  refine own_go (B := s₁.setTop (mkF m 0 #[.val (.ref a1)] [])) pre0 ?_
  show ∃ t o, Steps p.tables e below (s₁.setTop (mkF m 0 #[.val (.ref a1)] [])) t ∧ _
  refine own_go (fun _ => XS.aloadN X0.here hx rfl (hb hby d12_0) rfl rfl) ?_
  show ∃ t o, Steps p.tables e below (s₁.setTop (mkF m 1 #[.val (.ref a1)] [(.ref a1)])) t ∧ _
  obtain ⟨T2, X2, e2, st2⟩ := getF X0 hx hZ hown (host := "") (Or.inl (hw _ (List.mem_of_getElem? (i := 58) rfl))) Via.refl e0 P1 (g := (mkF m 1 #[.val (.ref a1)] [(.ref a1)])) rfl rfl (hb hby d12_1)
  refine own_go st2 ?_
  show ∃ t o, Steps p.tables e below (T2.setTop (mkF m 4 #[.val (.ref a1)] [(.ref er)])) t ∧ _
  obtain ⟨fs, hr, hrun, hended, hW, hsame⟩ := X2.leave (v := some (.ref er)) (fun h => by rw [Bd.returns] at h; cases h)
  refine ⟨_, _, ?_, hrun, hended, _, _, rfl, ?_, ⟨_, rfl⟩, hW, hsame.mono (by decide) (by decide)⟩
  · jvm_step X2.here [X2.here.top, hx, (hb hby d12_4), X2.method', Bd.returns, Value.isRef, FieldType.isReference]
    first | (intro acts; rw [hr _ acts rfl rfl rfl]) | rw [hr _ _ rfl rfl rfl]
    exact Steps.refl _
  · show Q_rmGetE Z a1 er h0 n0 _ T2.heap _
    rw [e2]
    exact ⟨rfl, N0, rfl⟩
theorem ef_rm0 (m : MethodId) (x0 : Int32) (x1 : Int32) (x2 : Int32) : entryFrame m #[(.int x0), (.int x1), (.int x2)] maxLocals = mkF m 0 #[.val (.int x0), .val (.int x1), .val (.int x2), .unset, .unset, .unset, .unset, .unset, .unset] [] := by first | (simp [entryFrame, mkF, argsToLocals, Value.category, maxLocals]; done) | rfl
theorem pd__28_5bC_29V : parseMethodDescriptor "([C)V" = some ⟨[(.array .char)], none⟩ := by decide +kernel
theorem pd__28Ljava_2flang_2fString_3bLjava_2flang_2fString_3b_29V : parseMethodDescriptor "(Ljava/lang/String;Ljava/lang/String;)V" = some ⟨[(.object "java/lang/String"), (.object "java/lang/String")], none⟩ := by decide +kernel
theorem pd_hd52b528b : parseMethodDescriptor "(Lcom/example/earnest_roster/earnestroster/ApiError;)Lcom/example/earnest_roster/earnestroster/MergeResult;" = some ⟨[(.object "com/example/earnest_roster/earnestroster/ApiError")], some (.object "com/example/earnest_roster/earnestroster/MergeResult")⟩ := by decide +kernel
theorem pd_h841489b0 : parseMethodDescriptor "()Lcom/example/earnest_roster/earnestroster/MergeResult$Status;" = some ⟨[], some (.object "com/example/earnest_roster/earnestroster/MergeResult$Status")⟩ := by decide +kernel
theorem pd__28_29Ljava_2flang_2fString_3b : parseMethodDescriptor "()Ljava/lang/String;" = some ⟨[], some (.object "java/lang/String")⟩ := by decide +kernel
theorem pd_h9e993125 : parseMethodDescriptor "()Lcom/example/earnest_roster/earnestroster/ApiError;" = some ⟨[], some (.object "com/example/earnest_roster/earnestroster/ApiError")⟩ := by decide +kernel
theorem pn_com_example_earnest_roster_earnestroster_MergeResultRejectedPinLaw : plainName "com/example/earnest_roster/earnestroster/MergeResultRejectedPinLaw" = true := by first | (simp [plainName, overriddenIn]; done) | decide +kernel
def Q_rm0 (Z : State) (i1 : Int32) (i2 : Int32) (i3 : Int32) (wS : Addr) (zc : Int32) (h0 : Heap) (n0 : Nat) (v : Option Value) (h : Heap) (L : List Loc) : Prop := v = some (.int (1 : Int32)) ∧ Fr n0 L ∧ Keep h0 h []
set_option maxRecDepth 65536 in
set_option maxHeartbeats 40000000 in
theorem rm0 (l : Launch) (Z : State) (a0 : Array Value) (hw : ∀ d ∈ tables_1, d.before a0 Z = true) (ws : List Jvm.Cond) (i1 : Int32) (i2 : Int32) (i3 : Int32) (wS : Addr) (zc : Int32) (h0 : Heap) (n0 : Nat) (Z0 : n0 ≤ h0.size) (OLD : Old Z n0 h0) (P1 : Sta Z Z.heap "com/example/earnest_roster/earnestroster/MergeResult$Status" "REJECTED" "Lcom/example/earnest_roster/earnestroster/MergeResult$Status;" (.ref wS)) (P2 : Sta Z Z.heap "java/lang/String" "COMPACT_STRINGS" "Z" (.int zc)) (hzc : ¬ (zc = (0 : Int32))) :
    MetFree l x (head1 (Jvm.Cond.code x code maxLocals ret :: ws) room_1) (fun a U => a = #[(.int i1), (.int i2), (.int i3)] ∧ Z.Warmed39 U.vm ∧ U.heap = h0) (fun _ _ _ _ _ => True) (fun _ U o U' => ∃ v L, o = .returned v ∧ Q_rm0 Z i1 i2 i3 wS zc h0 n0 v U'.heap L ∧ FrameEnd U o U' L room_1.cells room_1.slots) := by
  refine MetFree.of_bodySF (plainFor_of_name pn_com_example_earnest_roster_earnestroster_MergeResultRejectedPinLaw) hisR ?_
  intro p e s m args below meth c s₁ Bd hml0 hP hK
  obtain ⟨rfl, hZ, hh⟩ := hP
  have hx := Bd.exec
  have hby := Bd.bytes
  have hml : c.maxLocals = 9 := hml0
  have hown : s.vm.findClass "com/example/earnest_roster/earnestroster/MergeResultRejectedPinLaw" = some m.cls := findClass_of_methodNamed Bd.named
  have hnm := (name_of_methodNamed Bd.named Bd.method).1
  have X0 : Stand p l e room_1 s m #[(.int i1), (.int i2), (.int i3)] below meth c s₁ [] 0 0 := Stand.of_body Bd
  have e0 : s₁.heap = h0 := by rw [← hh, Bd.state]; rfl
  have N0 := Fr.nil n0
  have pre0 : ∀ t, Steps p.tables e below (s₁.setTop (mkF m 0 #[.val (.int i1), .val (.int i2), .val (.int i3), .unset, .unset, .unset, .unset, .unset, .unset] [])) t → Steps p.tables e below (s₁.setTop (entryFrame m #[(.int i1), (.int i2), (.int i3)] maxLocals)) t := fun t k => castTop (ef_rm0 m i1 i2 i3) k
  have oz := OLD.1
  refine own_go (B := s₁.setTop (mkF m 0 #[.val (.int i1), .val (.int i2), .val (.int i3), .unset, .unset, .unset, .unset, .unset, .unset] [])) pre0 ?_
  show ∃ t o, Steps p.tables e below (s₁.setTop (mkF m 0 #[.val (.int i1), .val (.int i2), .val (.int i3), .unset, .unset, .unset, .unset, .unset, .unset] [])) t ∧ _
  refine own_go (fun _ => XS.iconst X0.here hx rfl (hb hby at_0)) ?_
  show ∃ t o, Steps p.tables e below (s₁.setTop (mkF m 1 #[.val (.int i1), .val (.int i2), .val (.int i3), .unset, .unset, .unset, .unset, .unset, .unset] [(.int (2 : Int32))])) t ∧ _
  obtain ⟨T3, h3, k3, X3, e3, E3, A3, st3⟩ := newP X0 hx hZ (hw _ (List.mem_of_getElem? (i := 0) rfl)) e0 (g := (mkF m 1 #[.val (.int i1), .val (.int i2), .val (.int i3), .unset, .unset, .unset, .unset, .unset, .unset] [(.int (2 : Int32))])) rfl (hb hby at_1) rfl (by decide) (cap := 2) (by decide) (by decide) (by decide) (by decide)
  obtain ⟨b3, g3⟩ : ∃ z, z = h0.size := ⟨_, rfl⟩
  rw [← g3] at A3 st3
  refine own_go st3 ?_
  have le_3 : h0.size ≤ h3.size := E3.1
  have lt_b3 : b3 < h3.size := A3.lt
  have V_b3 : Arv Z h3 b3 k3 .char (2 : Int32) [(.int (0 : Int32)), (.int (0 : Int32))] (.int (0 : Int32)) := (Arv.new A3 (by decide)).pad (pad_rep [] (.int (0 : Int32)) 2)
  have K3 : Keep h0 h3 [] := Keep.ext (Keep.refl h0 []) E3
  show ∃ t o, Steps p.tables e below (T3.setTop (mkF m 3 #[.val (.int i1), .val (.int i2), .val (.int i3), .unset, .unset, .unset, .unset, .unset, .unset] [(.ref b3)])) t ∧ _
  refine own_go (fun _ => XS.astoreN X3.here hx rfl (hb hby at_3) rfl rfl (l' := #[.val (.int i1), .val (.int i2), .val (.int i3), .val (.ref b3), .unset, .unset, .unset, .unset, .unset]) rfl) ?_
  show ∃ t o, Steps p.tables e below (T3.setTop (mkF m 4 #[.val (.int i1), .val (.int i2), .val (.int i3), .val (.ref b3), .unset, .unset, .unset, .unset, .unset] [])) t ∧ _
  refine own_go (fun _ => XS.aloadN X3.here hx rfl (hb hby at_4) rfl rfl) ?_
  show ∃ t o, Steps p.tables e below (T3.setTop (mkF m 5 #[.val (.int i1), .val (.int i2), .val (.int i3), .val (.ref b3), .unset, .unset, .unset, .unset, .unset] [(.ref b3)])) t ∧ _
  refine own_go (fun _ => XS.iconst X3.here hx rfl (hb hby at_5)) ?_
  show ∃ t o, Steps p.tables e below (T3.setTop (mkF m 6 #[.val (.int i1), .val (.int i2), .val (.int i3), .val (.ref b3), .unset, .unset, .unset, .unset, .unset] [(.int (0 : Int32)), (.ref b3)])) t ∧ _
  refine own_go (fun _ => XS.iloadN X3.here hx rfl (hb hby at_6) rfl) ?_
  show ∃ t o, Steps p.tables e below (T3.setTop (mkF m 7 #[.val (.int i1), .val (.int i2), .val (.int i3), .val (.ref b3), .unset, .unset, .unset, .unset, .unset] [(.int i1), (.int (0 : Int32)), (.ref b3)])) t ∧ _
  refine own_go (fun _ => XS.sipush X3.here hx rfl (hb hby at_7)) ?_
  show ∃ t o, Steps p.tables e below (T3.setTop (mkF m 10 #[.val (.int i1), .val (.int i2), .val (.int i3), .val (.ref b3), .unset, .unset, .unset, .unset, .unset] [(.int (255 : Int32)), (.int i1), (.int (0 : Int32)), (.ref b3)])) t ∧ _
  refine own_go (fun _ => XS.iand X3.here hx rfl (hb hby at_10) rfl) ?_
  show ∃ t o, Steps p.tables e below (T3.setTop (mkF m 11 #[.val (.int i1), .val (.int i2), .val (.int i3), .val (.ref b3), .unset, .unset, .unset, .unset, .unset] [(.int (i1 &&& (255 : Int32))), (.int (0 : Int32)), (.ref b3)])) t ∧ _
  refine own_go (fun _ => XS.i2c X3.here hx rfl (hb hby at_11) rfl) ?_
  show ∃ t o, Steps p.tables e below (T3.setTop (mkF m 12 #[.val (.int i1), .val (.int i2), .val (.int i3), .val (.ref b3), .unset, .unset, .unset, .unset, .unset] [(.int ((i1 &&& (255 : Int32)).toUInt32.toUInt16.toUInt32.toInt32)), (.int (0 : Int32)), (.ref b3)])) t ∧ _
  obtain ⟨cl4, Ar4, q4, S4, N4, H4, G4⟩ := V_b3
  have hin4 : ¬ ((0 : Int32) < 0 ∨ cl4.slots.size ≤ ((0 : Int32)).toNatClampNeg) := inb_of S4 ⟨by decide, by decide⟩
  obtain ⟨T5, h5, X5, e5, W5, st5⟩ := stC X3 hx hZ e3 Ar4 (j := (0 : Int32)) hin4 (g := (mkF m 12 #[.val (.int i1), .val (.int i2), .val (.int i3), .val (.ref b3), .unset, .unset, .unset, .unset, .unset] [(.int ((i1 &&& (255 : Int32)).toUInt32.toUInt16.toUInt32.toInt32)), (.int (0 : Int32)), (.ref b3)])) rfl rfl (hb hby at_12)
  refine own_go st5 ?_
  have ge6 : n0 ≤ b3 := by omega
  have le_5 : h3.size ≤ h5.size := Nat.le_of_eq W5.size.symm
  have sz7 : h0.size ≤ b3 := by omega
  have K5 : Keep h0 h5 [] := Keep.wr K3 W5 (Or.inr sz7)
  have N5 := Fr.snoc X5 N0 ge6
  have V5 : Arv Z h5 b3 k3 .char (2 : Int32) [(.int (nar .char ((i1 &&& (255 : Int32)).toUInt32.toUInt16.toUInt32.toInt32))), (.int (0 : Int32))] (.int (0 : Int32)) := Arv.set Ar4 q4 S4 N4 H4 G4 (fits_nar_char _) W5 0 rfl (Nat.le_of_ble_eq_true rfl)
  show ∃ t o, Steps p.tables e below (T5.setTop (mkF m 13 #[.val (.int i1), .val (.int i2), .val (.int i3), .val (.ref b3), .unset, .unset, .unset, .unset, .unset] [])) t ∧ _
  refine own_go (fun _ => XS.aloadN X5.here hx rfl (hb hby at_13) rfl rfl) ?_
  show ∃ t o, Steps p.tables e below (T5.setTop (mkF m 14 #[.val (.int i1), .val (.int i2), .val (.int i3), .val (.ref b3), .unset, .unset, .unset, .unset, .unset] [(.ref b3)])) t ∧ _
  refine own_go (fun _ => XS.iconst X5.here hx rfl (hb hby at_14)) ?_
  show ∃ t o, Steps p.tables e below (T5.setTop (mkF m 15 #[.val (.int i1), .val (.int i2), .val (.int i3), .val (.ref b3), .unset, .unset, .unset, .unset, .unset] [(.int (1 : Int32)), (.ref b3)])) t ∧ _
  refine own_go (fun _ => XS.iloadN X5.here hx rfl (hb hby at_15) rfl) ?_
  show ∃ t o, Steps p.tables e below (T5.setTop (mkF m 16 #[.val (.int i1), .val (.int i2), .val (.int i3), .val (.ref b3), .unset, .unset, .unset, .unset, .unset] [(.int i2), (.int (1 : Int32)), (.ref b3)])) t ∧ _
  refine own_go (fun _ => XS.sipush X5.here hx rfl (hb hby at_16)) ?_
  show ∃ t o, Steps p.tables e below (T5.setTop (mkF m 19 #[.val (.int i1), .val (.int i2), .val (.int i3), .val (.ref b3), .unset, .unset, .unset, .unset, .unset] [(.int (255 : Int32)), (.int i2), (.int (1 : Int32)), (.ref b3)])) t ∧ _
  refine own_go (fun _ => XS.iand X5.here hx rfl (hb hby at_19) rfl) ?_
  show ∃ t o, Steps p.tables e below (T5.setTop (mkF m 20 #[.val (.int i1), .val (.int i2), .val (.int i3), .val (.ref b3), .unset, .unset, .unset, .unset, .unset] [(.int (i2 &&& (255 : Int32))), (.int (1 : Int32)), (.ref b3)])) t ∧ _
  refine own_go (fun _ => XS.i2c X5.here hx rfl (hb hby at_20) rfl) ?_
  show ∃ t o, Steps p.tables e below (T5.setTop (mkF m 21 #[.val (.int i1), .val (.int i2), .val (.int i3), .val (.ref b3), .unset, .unset, .unset, .unset, .unset] [(.int ((i2 &&& (255 : Int32)).toUInt32.toUInt16.toUInt32.toInt32)), (.int (1 : Int32)), (.ref b3)])) t ∧ _
  obtain ⟨cl8, Ar8, q8, S8, N8, H8, G8⟩ := V5
  have hin8 : ¬ ((1 : Int32) < 0 ∨ cl8.slots.size ≤ ((1 : Int32)).toNatClampNeg) := inb_of S8 ⟨by decide, by decide⟩
  obtain ⟨T9, h9, X9, e9, W9, st9⟩ := stC X5 hx hZ e5 Ar8 (j := (1 : Int32)) hin8 (g := (mkF m 21 #[.val (.int i1), .val (.int i2), .val (.int i3), .val (.ref b3), .unset, .unset, .unset, .unset, .unset] [(.int ((i2 &&& (255 : Int32)).toUInt32.toUInt16.toUInt32.toInt32)), (.int (1 : Int32)), (.ref b3)])) rfl rfl (hb hby at_21)
  refine own_go st9 ?_
  have le_9 : h5.size ≤ h9.size := Nat.le_of_eq W9.size.symm
  have K9 : Keep h0 h9 [] := Keep.wr K5 W9 (Or.inr sz7)
  have N9 := Fr.snoc X9 N5 ge6
  have V9 : Arv Z h9 b3 k3 .char (2 : Int32) [(.int (nar .char ((i1 &&& (255 : Int32)).toUInt32.toUInt16.toUInt32.toInt32))), (.int (nar .char ((i2 &&& (255 : Int32)).toUInt32.toUInt16.toUInt32.toInt32)))] (.int (0 : Int32)) := Arv.set Ar8 q8 S8 N8 H8 G8 (fits_nar_char _) W9 1 rfl (Nat.le_of_ble_eq_true rfl)
  show ∃ t o, Steps p.tables e below (T9.setTop (mkF m 22 #[.val (.int i1), .val (.int i2), .val (.int i3), .val (.ref b3), .unset, .unset, .unset, .unset, .unset] [])) t ∧ _
  refine own_go (fun _ => XS.iconst X9.here hx rfl (hb hby at_22)) ?_
  show ∃ t o, Steps p.tables e below (T9.setTop (mkF m 23 #[.val (.int i1), .val (.int i2), .val (.int i3), .val (.ref b3), .unset, .unset, .unset, .unset, .unset] [(.int (1 : Int32))])) t ∧ _
  obtain ⟨T10, h10, k10, X10, e10, E10, A10, st10⟩ := newP X9 hx hZ (hw _ (List.mem_of_getElem? (i := 0) rfl)) e9 (g := (mkF m 23 #[.val (.int i1), .val (.int i2), .val (.int i3), .val (.ref b3), .unset, .unset, .unset, .unset, .unset] [(.int (1 : Int32))])) rfl (hb hby at_23) rfl (by decide) (cap := 1) (by decide) (by decide) (by decide) (by decide)
  obtain ⟨b10, g10⟩ : ∃ z, z = h9.size := ⟨_, rfl⟩
  rw [← g10] at A10 st10
  refine own_go st10 ?_
  have le_10 : h9.size ≤ h10.size := E10.1
  have lt_b10 : b10 < h10.size := A10.lt
  have V_b10 : Arv Z h10 b10 k10 .char (1 : Int32) [(.int (0 : Int32))] (.int (0 : Int32)) := (Arv.new A10 (by decide)).pad (pad_rep [] (.int (0 : Int32)) 1)
  have K10 : Keep h0 h10 [] := Keep.ext K9 E10
  show ∃ t o, Steps p.tables e below (T10.setTop (mkF m 25 #[.val (.int i1), .val (.int i2), .val (.int i3), .val (.ref b3), .unset, .unset, .unset, .unset, .unset] [(.ref b10)])) t ∧ _
  refine own_go (fun _ => XS.astore X10.here hx rfl (hb hby at_25) rfl rfl (l' := #[.val (.int i1), .val (.int i2), .val (.int i3), .val (.ref b3), .val (.ref b10), .unset, .unset, .unset, .unset]) rfl) ?_
  show ∃ t o, Steps p.tables e below (T10.setTop (mkF m 27 #[.val (.int i1), .val (.int i2), .val (.int i3), .val (.ref b3), .val (.ref b10), .unset, .unset, .unset, .unset] [])) t ∧ _
  refine own_go (fun _ => XS.aload X10.here hx rfl (hb hby at_27) rfl rfl) ?_
  show ∃ t o, Steps p.tables e below (T10.setTop (mkF m 29 #[.val (.int i1), .val (.int i2), .val (.int i3), .val (.ref b3), .val (.ref b10), .unset, .unset, .unset, .unset] [(.ref b10)])) t ∧ _
  refine own_go (fun _ => XS.iconst X10.here hx rfl (hb hby at_29)) ?_
  show ∃ t o, Steps p.tables e below (T10.setTop (mkF m 30 #[.val (.int i1), .val (.int i2), .val (.int i3), .val (.ref b3), .val (.ref b10), .unset, .unset, .unset, .unset] [(.int (0 : Int32)), (.ref b10)])) t ∧ _
  refine own_go (fun _ => XS.iloadN X10.here hx rfl (hb hby at_30) rfl) ?_
  show ∃ t o, Steps p.tables e below (T10.setTop (mkF m 31 #[.val (.int i1), .val (.int i2), .val (.int i3), .val (.ref b3), .val (.ref b10), .unset, .unset, .unset, .unset] [(.int i3), (.int (0 : Int32)), (.ref b10)])) t ∧ _
  refine own_go (fun _ => XS.sipush X10.here hx rfl (hb hby at_31)) ?_
  show ∃ t o, Steps p.tables e below (T10.setTop (mkF m 34 #[.val (.int i1), .val (.int i2), .val (.int i3), .val (.ref b3), .val (.ref b10), .unset, .unset, .unset, .unset] [(.int (255 : Int32)), (.int i3), (.int (0 : Int32)), (.ref b10)])) t ∧ _
  refine own_go (fun _ => XS.iand X10.here hx rfl (hb hby at_34) rfl) ?_
  show ∃ t o, Steps p.tables e below (T10.setTop (mkF m 35 #[.val (.int i1), .val (.int i2), .val (.int i3), .val (.ref b3), .val (.ref b10), .unset, .unset, .unset, .unset] [(.int (i3 &&& (255 : Int32))), (.int (0 : Int32)), (.ref b10)])) t ∧ _
  refine own_go (fun _ => XS.i2c X10.here hx rfl (hb hby at_35) rfl) ?_
  show ∃ t o, Steps p.tables e below (T10.setTop (mkF m 36 #[.val (.int i1), .val (.int i2), .val (.int i3), .val (.ref b3), .val (.ref b10), .unset, .unset, .unset, .unset] [(.int ((i3 &&& (255 : Int32)).toUInt32.toUInt16.toUInt32.toInt32)), (.int (0 : Int32)), (.ref b10)])) t ∧ _
  obtain ⟨cl11, Ar11, q11, S11, N11, H11, G11⟩ := V_b10
  have hin11 : ¬ ((0 : Int32) < 0 ∨ cl11.slots.size ≤ ((0 : Int32)).toNatClampNeg) := inb_of S11 ⟨by decide, by decide⟩
  obtain ⟨T12, h12, X12, e12, W12, st12⟩ := stC X10 hx hZ e10 Ar11 (j := (0 : Int32)) hin11 (g := (mkF m 36 #[.val (.int i1), .val (.int i2), .val (.int i3), .val (.ref b3), .val (.ref b10), .unset, .unset, .unset, .unset] [(.int ((i3 &&& (255 : Int32)).toUInt32.toUInt16.toUInt32.toInt32)), (.int (0 : Int32)), (.ref b10)])) rfl rfl (hb hby at_36)
  refine own_go st12 ?_
  have ge13 : n0 ≤ b10 := by omega
  have le_12 : h10.size ≤ h12.size := Nat.le_of_eq W12.size.symm
  have sz14 : h0.size ≤ b10 := by omega
  have K12 : Keep h0 h12 [] := Keep.wr K10 W12 (Or.inr sz14)
  have N12 := Fr.snoc X12 N9 ge13
  have V12 : Arv Z h12 b10 k10 .char (1 : Int32) [(.int (nar .char ((i3 &&& (255 : Int32)).toUInt32.toUInt16.toUInt32.toInt32)))] (.int (0 : Int32)) := Arv.set Ar11 q11 S11 N11 H11 G11 (fits_nar_char _) W12 0 rfl (Nat.le_of_ble_eq_true rfl)
  show ∃ t o, Steps p.tables e below (T12.setTop (mkF m 37 #[.val (.int i1), .val (.int i2), .val (.int i3), .val (.ref b3), .val (.ref b10), .unset, .unset, .unset, .unset] [])) t ∧ _
  obtain ⟨T15, h15, X15, e15, E15, A15, D15, -, st15⟩ := newO X12 hx hZ hown (hw _ (List.mem_of_getElem? (i := 1) rfl)) (hw _ (List.mem_of_getElem? (i := 2) rfl)) (hw _ (List.mem_of_getElem? (i := 3) rfl)) e12 (g := (mkF m 37 #[.val (.int i1), .val (.int i2), .val (.int i3), .val (.ref b3), .val (.ref b10), .unset, .unset, .unset, .unset] [])) rfl (hb hby at_37) (by decide) (by decide)
  obtain ⟨b15, g15⟩ : ∃ z, z = h12.size := ⟨_, rfl⟩
  rw [← g15] at A15 D15 st15
  refine own_go st15 ?_
  have le_15 : h12.size ≤ h15.size := E15.1
  have lt_b15 : b15 < h15.size := A15.lt
  have F_coder_b15 : Fld Z h15 b15 "java/lang/String" "coder" "B" (.int (0 : Int32)) := D15 (Or.inr (hw _ (List.mem_of_getElem? (i := 27) rfl))) (ty := .byte) (by decide)
  have F_value_b15 : Fld Z h15 b15 "java/lang/String" "value" "[B" .null := D15 (Or.inr (hw _ (List.mem_of_getElem? (i := 29) rfl))) (ty := (.array .byte)) (by decide)
  have K15 : Keep h0 h15 [] := Keep.ext K12 E15
  show ∃ t o, Steps p.tables e below (T15.setTop (mkF m 40 #[.val (.int i1), .val (.int i2), .val (.int i3), .val (.ref b3), .val (.ref b10), .unset, .unset, .unset, .unset] [(.ref b15)])) t ∧ _
  refine own_go (fun _ => XS.dup X15.here hx rfl (hb hby at_40) rfl rfl) ?_
  show ∃ t o, Steps p.tables e below (T15.setTop (mkF m 41 #[.val (.int i1), .val (.int i2), .val (.int i3), .val (.ref b3), .val (.ref b10), .unset, .unset, .unset, .unset] [(.ref b15), (.ref b15)])) t ∧ _
  refine own_go (fun _ => XS.aloadN X15.here hx rfl (hb hby at_41) rfl rfl) ?_
  show ∃ t o, Steps p.tables e below (T15.setTop (mkF m 42 #[.val (.int i1), .val (.int i2), .val (.int i3), .val (.ref b3), .val (.ref b10), .unset, .unset, .unset, .unset] [(.ref b3), (.ref b15), (.ref b15)])) t ∧ _
  have hws : ∀ d ∈ StrChars.Road.words, d.before a0 Z = true := fun d hd => hw d ((by decide +kernel : ∀ d ∈ StrChars.Road.words, d ∈ tables_1) d hd)
  have hp16 : ∀ c ∈ ([(nar .char ((i1 &&& (255 : Int32)).toUInt32.toUInt16.toUInt32.toInt32)), (nar .char ((i2 &&& (255 : Int32)).toUInt32.toUInt16.toUInt32.toInt32))] : List Int32), ¬ c < 0 ∧ ¬ (255 : Int32) < c := (own_allS (own_and255 i1) (own_allS (own_and255 i2) own_all0))
  have ne17 : b3 ≠ b10 := by omega
  have F18 : Arv Z h15 b3 k3 .char (2 : Int32) [(.int (nar .char ((i1 &&& (255 : Int32)).toUInt32.toUInt16.toUInt32.toInt32))), (.int (nar .char ((i2 &&& (255 : Int32)).toUInt32.toUInt16.toUInt32.toInt32)))] (.int (0 : Int32)) := ((Arv.other (V9.ext E10) W12 ne17).ext E15)
  have F19 : Old Z n0 h15 := ((Old.wr ((Old.wr (Old.wr (OLD.ext E3) W5 ge6) W9 ge6).ext E10) W12 ge13).ext E15)
  have zl20 : n0 ≤ h15.size := by omega
  have ge21 : n0 ≤ b15 := by omega
  obtain ⟨_, _, ⟨T16, L16, k16, n16⟩, -, X16, ⟨Lc16, hQ16, l16, y16, z16⟩, st16⟩ := X15.specialBack hx (y := (⟨"java/lang/String", "<init>", "([C)V"⟩ : MethodName)) rfl hown (mvT hZ (hw _ (List.mem_of_getElem? (i := 4) rfl))) (mvT hZ (hw _ (List.mem_of_getElem? (i := 5) rfl))) (mvT hZ (hw _ (List.mem_of_getElem? (i := 6) rfl))) (by decide) (StrChars.Road.backV (W := 1) hZ hws (kI := 4) (hw _ (List.mem_of_getElem? (i := 2) rfl)) (cs := ([(nar .char ((i1 &&& (255 : Int32)).toUInt32.toUInt16.toUInt32.toInt32)), (nar .char ((i2 &&& (255 : Int32)).toUInt32.toUInt16.toUInt32.toInt32))] : List Int32)) (bs := (([(nar .char ((i1 &&& (255 : Int32)).toUInt32.toUInt16.toUInt32.toInt32)), (nar .char ((i2 &&& (255 : Int32)).toUInt32.toUInt16.toUInt32.toInt32))] : List Int32)).map (fun c => c.toInt8.toInt32)) (n := 2) ge21 zl20 A15 F_value_b15 F_coder_b15 F18 (Sta.ext F19.2 P2) hzc rfl rfl (by decide) (by decide) hp16 rfl (by decide) (by decide)) (g := (mkF m 42 #[.val (.int i1), .val (.int i2), .val (.int i3), .val (.ref b3), .val (.ref b10), .unset, .unset, .unset, .unset] [(.ref b3), (.ref b15), (.ref b15)])) rfl (by rw [hml]; rfl) (Steps.refl _) (a := b15) (argsL := [(.ref b3)]) (rest := [(.ref b15)]) (lenOf pd__28_5bC_29V rfl) rfl (by show 2 * 0 + _ ≤ _; exact Nat.le_of_eq rfl) (hb hby at_42) (fun _ _ => ⟨rfl, e15, (by decide : 3 + 1 ≤ _), (by decide : 7 + 2 ≤ _)⟩)
  dsimp only [Pt.U, Pt.locs, Pt.cells, Pt.slots] at X16 l16 y16 z16 st16 hQ16
  subst l16 y16 z16
  obtain ⟨rfl, Nq16, Kp16, G16_0, G16_1, t16, kb16, u16_1, u16_2, u16_3, G16_2, G16_3⟩ := hQ16
  have N16 := Fr.app N12 Nq16
  refine own_goT st16 ?_
  have le_16 : h15.size ≤ T16.heap.size := Kp16.1
  have sz22 : h0.size ≤ b15 := by omega
  have K16 : Keep h0 T16.heap [] := Keep.trans K15 Kp16 (allS (Or.inr sz22) all0)
  have lt_t16 := G16_3.lt
  show ∃ t o, Steps p.tables e below (T16.setTop (mkF m 45 #[.val (.int i1), .val (.int i2), .val (.int i3), .val (.ref b3), .val (.ref b10), .unset, .unset, .unset, .unset] [(.ref b15)])) t ∧ _
  refine own_go (fun _ => XS.astore X16.here hx rfl (hb hby at_45) rfl rfl (l' := #[.val (.int i1), .val (.int i2), .val (.int i3), .val (.ref b3), .val (.ref b10), .val (.ref b15), .unset, .unset, .unset]) rfl) ?_
  show ∃ t o, Steps p.tables e below (T16.setTop (mkF m 47 #[.val (.int i1), .val (.int i2), .val (.int i3), .val (.ref b3), .val (.ref b10), .val (.ref b15), .unset, .unset, .unset] [])) t ∧ _
  obtain ⟨T23, h23, X23, e23, E23, A23, D23, -, st23⟩ := newO X16 hx hZ hown (hw _ (List.mem_of_getElem? (i := 1) rfl)) (hw _ (List.mem_of_getElem? (i := 2) rfl)) (hw _ (List.mem_of_getElem? (i := 3) rfl)) rfl (g := (mkF m 47 #[.val (.int i1), .val (.int i2), .val (.int i3), .val (.ref b3), .val (.ref b10), .val (.ref b15), .unset, .unset, .unset] [])) rfl (hb hby at_47) (by decide) (by decide)
  obtain ⟨b23, g23⟩ : ∃ z, z = T16.heap.size := ⟨_, rfl⟩
  rw [← g23] at A23 D23 st23
  refine own_go st23 ?_
  have le_23 : T16.heap.size ≤ h23.size := E23.1
  have lt_b23 : b23 < h23.size := A23.lt
  have F_coder_b23 : Fld Z h23 b23 "java/lang/String" "coder" "B" (.int (0 : Int32)) := D23 (Or.inr (hw _ (List.mem_of_getElem? (i := 27) rfl))) (ty := .byte) (by decide)
  have F_value_b23 : Fld Z h23 b23 "java/lang/String" "value" "[B" .null := D23 (Or.inr (hw _ (List.mem_of_getElem? (i := 29) rfl))) (ty := (.array .byte)) (by decide)
  have K23 : Keep h0 h23 [] := Keep.ext K16 E23
  show ∃ t o, Steps p.tables e below (T23.setTop (mkF m 50 #[.val (.int i1), .val (.int i2), .val (.int i3), .val (.ref b3), .val (.ref b10), .val (.ref b15), .unset, .unset, .unset] [(.ref b23)])) t ∧ _
  refine own_go (fun _ => XS.dup X23.here hx rfl (hb hby at_50) rfl rfl) ?_
  show ∃ t o, Steps p.tables e below (T23.setTop (mkF m 51 #[.val (.int i1), .val (.int i2), .val (.int i3), .val (.ref b3), .val (.ref b10), .val (.ref b15), .unset, .unset, .unset] [(.ref b23), (.ref b23)])) t ∧ _
  refine own_go (fun _ => XS.aload X23.here hx rfl (hb hby at_51) rfl rfl) ?_
  show ∃ t o, Steps p.tables e below (T23.setTop (mkF m 53 #[.val (.int i1), .val (.int i2), .val (.int i3), .val (.ref b3), .val (.ref b10), .val (.ref b15), .unset, .unset, .unset] [(.ref b10), (.ref b23), (.ref b23)])) t ∧ _
  have hp24 : ∀ c ∈ ([(nar .char ((i3 &&& (255 : Int32)).toUInt32.toUInt16.toUInt32.toInt32))] : List Int32), ¬ c < 0 ∧ ¬ (255 : Int32) < c := (own_allS (own_and255 i3) own_all0)
  have ne25 : b10 ≠ b15 := by omega
  have F26 : Arv Z h23 b10 k10 .char (1 : Int32) [(.int (nar .char ((i3 &&& (255 : Int32)).toUInt32.toUInt16.toUInt32.toInt32)))] (.int (0 : Int32)) := ((Arv.keep (V12.ext E15) Kp16 (ninS ne25 nin0)).ext E23)
  have F27 : Old Z n0 h23 := ((Old.keep F19 Kp16 (allS ge21 all0)).ext E23)
  have zl28 : n0 ≤ h23.size := by omega
  have ge29 : n0 ≤ b23 := by omega
  obtain ⟨_, _, ⟨T24, L24, k24, n24⟩, -, X24, ⟨Lc24, hQ24, l24, y24, z24⟩, st24⟩ := X23.specialBack hx (y := (⟨"java/lang/String", "<init>", "([C)V"⟩ : MethodName)) rfl hown (mvT hZ (hw _ (List.mem_of_getElem? (i := 4) rfl))) (mvT hZ (hw _ (List.mem_of_getElem? (i := 5) rfl))) (mvT hZ (hw _ (List.mem_of_getElem? (i := 6) rfl))) (by decide) (StrChars.Road.backV (W := 1) hZ hws (kI := 4) (hw _ (List.mem_of_getElem? (i := 2) rfl)) (cs := ([(nar .char ((i3 &&& (255 : Int32)).toUInt32.toUInt16.toUInt32.toInt32))] : List Int32)) (bs := (([(nar .char ((i3 &&& (255 : Int32)).toUInt32.toUInt16.toUInt32.toInt32))] : List Int32)).map (fun c => c.toInt8.toInt32)) (n := 1) ge29 zl28 A23 F_value_b23 F_coder_b23 F26 (Sta.ext F27.2 P2) hzc rfl rfl (by decide) (by decide) hp24 rfl (by decide) (by decide)) (g := (mkF m 53 #[.val (.int i1), .val (.int i2), .val (.int i3), .val (.ref b3), .val (.ref b10), .val (.ref b15), .unset, .unset, .unset] [(.ref b10), (.ref b23), (.ref b23)])) rfl (by rw [hml]; rfl) (Steps.refl _) (a := b23) (argsL := [(.ref b10)]) (rest := [(.ref b23)]) (lenOf pd__28_5bC_29V rfl) rfl (by show 2 * 0 + _ ≤ _; exact Nat.le_of_eq rfl) (hb hby at_53) (fun _ _ => ⟨rfl, e23, (by decide : 5 + 1 ≤ _), (by decide : 13 + 1 ≤ _)⟩)
  dsimp only [Pt.U, Pt.locs, Pt.cells, Pt.slots] at X24 l24 y24 z24 st24 hQ24
  subst l24 y24 z24
  obtain ⟨rfl, Nq24, Kp24, G24_0, G24_1, t24, kb24, u24_1, u24_2, u24_3, G24_2, G24_3⟩ := hQ24
  have N24 := Fr.app N16 Nq24
  refine own_goT st24 ?_
  have le_24 : h23.size ≤ T24.heap.size := Kp24.1
  have sz30 : h0.size ≤ b23 := by omega
  have K24 : Keep h0 T24.heap [] := Keep.trans K23 Kp24 (allS (Or.inr sz30) all0)
  have lt_t24 := G24_3.lt
  show ∃ t o, Steps p.tables e below (T24.setTop (mkF m 56 #[.val (.int i1), .val (.int i2), .val (.int i3), .val (.ref b3), .val (.ref b10), .val (.ref b15), .unset, .unset, .unset] [(.ref b23)])) t ∧ _
  refine own_go (fun _ => XS.astore X24.here hx rfl (hb hby at_56) rfl rfl (l' := #[.val (.int i1), .val (.int i2), .val (.int i3), .val (.ref b3), .val (.ref b10), .val (.ref b15), .val (.ref b23), .unset, .unset]) rfl) ?_
  show ∃ t o, Steps p.tables e below (T24.setTop (mkF m 58 #[.val (.int i1), .val (.int i2), .val (.int i3), .val (.ref b3), .val (.ref b10), .val (.ref b15), .val (.ref b23), .unset, .unset] [])) t ∧ _
  obtain ⟨T31, h31, X31, e31, E31, A31, D31, -, st31⟩ := newO X24 hx hZ hown (hw _ (List.mem_of_getElem? (i := 30) rfl)) (hw _ (List.mem_of_getElem? (i := 31) rfl)) (hw _ (List.mem_of_getElem? (i := 32) rfl)) rfl (g := (mkF m 58 #[.val (.int i1), .val (.int i2), .val (.int i3), .val (.ref b3), .val (.ref b10), .val (.ref b15), .val (.ref b23), .unset, .unset] [])) rfl (hb hby at_58) (by decide) (by decide)
  obtain ⟨b31, g31⟩ : ∃ z, z = T24.heap.size := ⟨_, rfl⟩
  rw [← g31] at A31 D31 st31
  refine own_go st31 ?_
  have le_31 : T24.heap.size ≤ h31.size := E31.1
  have lt_b31 : b31 < h31.size := A31.lt
  have F_code_b31 : Fld Z h31 b31 "com/example/earnest_roster/earnestroster/ApiError" "code" "Ljava/lang/String;" .null := D31 (Or.inr (hw _ (List.mem_of_getElem? (i := 38) rfl))) (ty := (.object "java/lang/String")) (by decide)
  have F_message_b31 : Fld Z h31 b31 "com/example/earnest_roster/earnestroster/ApiError" "message" "Ljava/lang/String;" .null := D31 (Or.inr (hw _ (List.mem_of_getElem? (i := 40) rfl))) (ty := (.object "java/lang/String")) (by decide)
  have K31 : Keep h0 h31 [] := Keep.ext K24 E31
  show ∃ t o, Steps p.tables e below (T31.setTop (mkF m 61 #[.val (.int i1), .val (.int i2), .val (.int i3), .val (.ref b3), .val (.ref b10), .val (.ref b15), .val (.ref b23), .unset, .unset] [(.ref b31)])) t ∧ _
  refine own_go (fun _ => XS.dup X31.here hx rfl (hb hby at_61) rfl rfl) ?_
  show ∃ t o, Steps p.tables e below (T31.setTop (mkF m 62 #[.val (.int i1), .val (.int i2), .val (.int i3), .val (.ref b3), .val (.ref b10), .val (.ref b15), .val (.ref b23), .unset, .unset] [(.ref b31), (.ref b31)])) t ∧ _
  refine own_go (fun _ => XS.aload X31.here hx rfl (hb hby at_62) rfl rfl) ?_
  show ∃ t o, Steps p.tables e below (T31.setTop (mkF m 64 #[.val (.int i1), .val (.int i2), .val (.int i3), .val (.ref b3), .val (.ref b10), .val (.ref b15), .val (.ref b23), .unset, .unset] [(.ref b15), (.ref b31), (.ref b31)])) t ∧ _
  refine own_go (fun _ => XS.aload X31.here hx rfl (hb hby at_64) rfl rfl) ?_
  show ∃ t o, Steps p.tables e below (T31.setTop (mkF m 66 #[.val (.int i1), .val (.int i2), .val (.int i3), .val (.ref b3), .val (.ref b10), .val (.ref b15), .val (.ref b23), .unset, .unset] [(.ref b23), (.ref b15), (.ref b31), (.ref b31)])) t ∧ _
  have F32 : Old Z n0 h31 := ((Old.keep F27 Kp24 (allS ge29 all0)).ext E31)
  have ge33 : n0 ≤ b31 := by omega
  have zl34 : n0 ≤ h31.size := by omega
  obtain ⟨_, _, ⟨T35, L35, k35, n35⟩, -, X35, ⟨Lc35, hQ35, l35, y35, z35⟩, st35⟩ := X31.specialBack hx (y := (⟨"com/example/earnest_roster/earnestroster/ApiError", "<init>", "(Ljava/lang/String;Ljava/lang/String;)V"⟩ : MethodName)) rfl hown (mvT hZ (hw _ (List.mem_of_getElem? (i := 33) rfl))) (mvT hZ (hw _ (List.mem_of_getElem? (i := 34) rfl))) (mvT hZ (hw _ (List.mem_of_getElem? (i := 35) rfl))) (by decide) (backOf (W := 1) (rmAE l Z a0 hw [] b31 b15 b23 h31 n0 zl34 A31 F_code_b31 F_message_b31 F32 ge33) hZ (hw _ (List.mem_of_getElem? (i := 35) rfl)) (hw _ (List.mem_of_getElem? (i := 32) rfl)) (by decide) (by decide)) (g := (mkF m 66 #[.val (.int i1), .val (.int i2), .val (.int i3), .val (.ref b3), .val (.ref b10), .val (.ref b15), .val (.ref b23), .unset, .unset] [(.ref b23), (.ref b15), (.ref b31), (.ref b31)])) rfl (by rw [hml]; rfl) (Steps.refl _) (a := b31) (argsL := [(.ref b15), (.ref b23)]) (rest := [(.ref b31)]) (lenOf pd__28Ljava_2flang_2fString_3bLjava_2flang_2fString_3b_29V rfl) rfl (by show 2 * 0 + _ ≤ _; exact Nat.le_of_eq rfl) (hb hby at_66) (fun _ _ => ⟨rfl, e31, (by decide : 7 + 0 ≤ _), (by decide : 16 + 0 ≤ _)⟩)
  dsimp only [Pt.U, Pt.locs, Pt.cells, Pt.slots] at X35 l35 y35 z35 st35 hQ35
  subst l35 y35 z35
  obtain ⟨rfl, Nq35, Kp35, G35_0⟩ := hQ35
  have N35 := Fr.app N24 Nq35
  refine own_goT st35 ?_
  have le_35 : h31.size ≤ T35.heap.size := Kp35.1
  have sz36 : h0.size ≤ b31 := by omega
  have K35 : Keep h0 T35.heap [] := Keep.trans K31 Kp35 (allS (Or.inr sz36) all0)
  show ∃ t o, Steps p.tables e below (T35.setTop (mkF m 69 #[.val (.int i1), .val (.int i2), .val (.int i3), .val (.ref b3), .val (.ref b10), .val (.ref b15), .val (.ref b23), .unset, .unset] [(.ref b31)])) t ∧ _
  refine own_go (fun _ => XS.astore X35.here hx rfl (hb hby at_69) rfl rfl (l' := #[.val (.int i1), .val (.int i2), .val (.int i3), .val (.ref b3), .val (.ref b10), .val (.ref b15), .val (.ref b23), .val (.ref b31), .unset]) rfl) ?_
  show ∃ t o, Steps p.tables e below (T35.setTop (mkF m 71 #[.val (.int i1), .val (.int i2), .val (.int i3), .val (.ref b3), .val (.ref b10), .val (.ref b15), .val (.ref b23), .val (.ref b31), .unset] [])) t ∧ _
  refine own_go (fun _ => XS.aload X35.here hx rfl (hb hby at_71) rfl rfl) ?_
  show ∃ t o, Steps p.tables e below (T35.setTop (mkF m 73 #[.val (.int i1), .val (.int i2), .val (.int i3), .val (.ref b3), .val (.ref b10), .val (.ref b15), .val (.ref b23), .val (.ref b31), .unset] [(.ref b31)])) t ∧ _
  have F37 : Old Z n0 T35.heap := (Old.keep F32 Kp35 (allS ge33 all0))
  have zl38 : n0 ≤ T35.heap.size := by omega
  obtain ⟨_, _, ⟨T39, L39, k39, n39⟩, -, X39, ⟨Lc39, hQ39, l39, y39, z39⟩, st39⟩ := Jvm.LawKit.callS X35 hx (y := (⟨"com/example/earnest_roster/earnestroster/MergeResult", "rejected", "(Lcom/example/earnest_roster/earnestroster/ApiError;)Lcom/example/earnest_roster/earnestroster/MergeResult;"⟩ : MethodName)) hown (mvT hZ (hw _ (List.mem_of_getElem? (i := 41) rfl))) (mvT hZ (hw _ (List.mem_of_getElem? (i := 42) rfl))) (mvT hZ (hw _ (List.mem_of_getElem? (i := 43) rfl))) (mvT hZ (hw _ (List.mem_of_getElem? (i := 44) rfl))) (by decide) (backOf (W := 0) (rmRej l Z a0 hw [] b31 wS T35.heap n0 zl38 F37 P1) hZ (hw _ (List.mem_of_getElem? (i := 44) rfl)) (hw _ (List.mem_of_getElem? (i := 43) rfl)) (by decide) (by decide)) (g := (mkF m 73 #[.val (.int i1), .val (.int i2), .val (.int i3), .val (.ref b3), .val (.ref b10), .val (.ref b15), .val (.ref b23), .val (.ref b31), .unset] [(.ref b31)])) rfl (by rw [hml]; rfl) (argsL := [(.ref b31)]) (rest := []) (lenOf pd_hd52b528b rfl) rfl (by show 2 * 0 + _ ≤ _; exact Nat.le_of_eq rfl) (hb hby at_73) (fun _ _ => ⟨rfl, rfl, (by decide : 7 + 1 ≤ _), (by decide : 16 + 3 ≤ _)⟩)
  dsimp only [Pt.U, Pt.locs, Pt.cells, Pt.slots] at X39 l39 y39 z39 st39 hQ39
  subst l39 y39 z39
  obtain ⟨b_39, rfl, Nq39, Kp39, G39_0, G39_1, G39_2, G39_3, H39_0⟩ := hQ39
  have N39 := Fr.app N35 Nq39
  refine own_go st39 ?_
  have le_39 : T35.heap.size ≤ T39.heap.size := Kp39.1
  have K39 : Keep h0 T39.heap [] := Keep.trans K35 Kp39 all0
  have lt_b_39 := (G39_0).lt
  show ∃ t o, Steps p.tables e below (T39.setTop (mkF m 76 #[.val (.int i1), .val (.int i2), .val (.int i3), .val (.ref b3), .val (.ref b10), .val (.ref b15), .val (.ref b23), .val (.ref b31), .unset] [(.ref b_39)])) t ∧ _
  refine own_go (fun _ => XS.astore X39.here hx rfl (hb hby at_76) rfl rfl (l' := #[.val (.int i1), .val (.int i2), .val (.int i3), .val (.ref b3), .val (.ref b10), .val (.ref b15), .val (.ref b23), .val (.ref b31), .val (.ref b_39)]) rfl) ?_
  show ∃ t o, Steps p.tables e below (T39.setTop (mkF m 78 #[.val (.int i1), .val (.int i2), .val (.int i3), .val (.ref b3), .val (.ref b10), .val (.ref b15), .val (.ref b23), .val (.ref b31), .val (.ref b_39)] [])) t ∧ _
  refine own_go (fun _ => XS.aload X39.here hx rfl (hb hby at_78) rfl rfl) ?_
  show ∃ t o, Steps p.tables e below (T39.setTop (mkF m 80 #[.val (.int i1), .val (.int i2), .val (.int i3), .val (.ref b3), .val (.ref b10), .val (.ref b15), .val (.ref b23), .val (.ref b31), .val (.ref b_39)] [(.ref b_39)])) t ∧ _
  refine own_go (fun _ => XS.ifnonnullYes X39.here hx rfl (pc0 := 80) (pc' := 85) rfl (hb hby at_80) rfl (by decide) (by decide)) ?_
  show ∃ t o, Steps p.tables e below (T39.setTop (mkF m 85 #[.val (.int i1), .val (.int i2), .val (.int i3), .val (.ref b3), .val (.ref b10), .val (.ref b15), .val (.ref b23), .val (.ref b31), .val (.ref b_39)] [])) t ∧ _
  refine own_go (fun _ => XS.aload X39.here hx rfl (hb hby at_85) rfl rfl) ?_
  show ∃ t o, Steps p.tables e below (T39.setTop (mkF m 87 #[.val (.int i1), .val (.int i2), .val (.int i3), .val (.ref b3), .val (.ref b10), .val (.ref b15), .val (.ref b23), .val (.ref b31), .val (.ref b_39)] [(.ref b_39)])) t ∧ _
  have F40 : Old Z n0 T39.heap := (Old.keep F37 Kp39 all0)
  have zl41 : n0 ≤ T39.heap.size := by omega
  obtain ⟨cq42, kq42, q42a, q42b, q42c⟩ := isOf hZ rfl G39_0
  obtain ⟨_, _, ⟨T42, L42, k42, n42⟩, -, X42, ⟨Lc42, hQ42, l42, y42, z42⟩, st42⟩ := X39.virtualBack hx (y := (⟨"com/example/earnest_roster/earnestroster/MergeResult", "getStatus", "()Lcom/example/earnest_roster/earnestroster/MergeResult$Status;"⟩ : MethodName)) (z := (⟨"com/example/earnest_roster/earnestroster/MergeResult", "getStatus", "()Lcom/example/earnest_roster/earnestroster/MergeResult$Status;"⟩ : MethodName)) hown (mvT hZ (hw _ (List.mem_of_getElem? (i := 60) rfl))) (mvT hZ (hw _ (List.mem_of_getElem? (i := 61) rfl))) (notFace_of_selects (args := #[]) (mvT hZ (hw _ (List.mem_of_getElem? (i := 63) rfl)))) (mvT hZ (hw _ (List.mem_of_getElem? (i := 63) rfl))) (mvT hZ (hw _ (List.mem_of_getElem? (i := 62) rfl))) (by decide) (backOf (W := 0) (rmGetS l Z a0 hw [] b_39 wS T39.heap n0 zl41 G39_1 F40) hZ (hw _ (List.mem_of_getElem? (i := 64) rfl)) (hw _ (List.mem_of_getElem? (i := 43) rfl)) (by decide) (by decide)) q42a q42c (g := (mkF m 87 #[.val (.int i1), .val (.int i2), .val (.int i3), .val (.ref b3), .val (.ref b10), .val (.ref b15), .val (.ref b23), .val (.ref b31), .val (.ref b_39)] [(.ref b_39)])) rfl (by rw [hml]; rfl) (Steps.refl _) (argsL := []) (rest := []) (lenOf pd_h841489b0 rfl) rfl (by show 2 * 0 + _ ≤ _; exact Nat.le_of_eq rfl) (hb hby at_87) (fun _ _ => ⟨rfl, rfl, (by decide : 8 + 0 ≤ _), (by decide : 19 + 0 ≤ _)⟩)
  dsimp only [Pt.U, Pt.locs, Pt.cells, Pt.slots] at X42 l42 y42 z42 st42 hQ42
  subst l42 y42 z42
  obtain ⟨rfl, Nq42, e42⟩ := hQ42
  have N42 := Fr.app N39 Nq42
  refine own_goT st42 ?_
  show ∃ t o, Steps p.tables e below (T42.setTop (mkF m 90 #[.val (.int i1), .val (.int i2), .val (.int i3), .val (.ref b3), .val (.ref b10), .val (.ref b15), .val (.ref b23), .val (.ref b31), .val (.ref b_39)] [(.ref wS)])) t ∧ _
  obtain ⟨T43, X43, e43, st43⟩ := getS2 X42 hx hZ hown (host := "") (Or.inl (hw _ (List.mem_of_getElem? (i := 65) rfl))) Via.refl e42 (Sta.ext F40.2 P1) (g := (mkF m 90 #[.val (.int i1), .val (.int i2), .val (.int i3), .val (.ref b3), .val (.ref b10), .val (.ref b15), .val (.ref b23), .val (.ref b31), .val (.ref b_39)] [(.ref wS)])) rfl (hb hby at_90)
  refine own_go st43 ?_
  show ∃ t o, Steps p.tables e below (T43.setTop (mkF m 93 #[.val (.int i1), .val (.int i2), .val (.int i3), .val (.ref b3), .val (.ref b10), .val (.ref b15), .val (.ref b23), .val (.ref b31), .val (.ref b_39)] [(.ref wS), (.ref wS)])) t ∧ _
  refine own_go (fun _ => Jvm.RoadKit.acmp (g := (mkF m 93 #[.val (.int i1), .val (.int i2), .val (.int i3), .val (.ref b3), .val (.ref b10), .val (.ref b15), .val (.ref b23), .val (.ref b31), .val (.ref b_39)] [(.ref wS), (.ref wS)])) X43 hx rfl rfl rfl (pc0 := 93) (pc' := 98) (same := true) rfl (hb hby at_93) rfl (decide_eq_true rfl) (by decide) (by decide)) ?_
  show ∃ t o, Steps p.tables e below (T43.setTop (mkF m 98 #[.val (.int i1), .val (.int i2), .val (.int i3), .val (.ref b3), .val (.ref b10), .val (.ref b15), .val (.ref b23), .val (.ref b31), .val (.ref b_39)] [])) t ∧ _
  refine own_go (fun _ => XS.aload X43.here hx rfl (hb hby at_98) rfl rfl) ?_
  show ∃ t o, Steps p.tables e below (T43.setTop (mkF m 100 #[.val (.int i1), .val (.int i2), .val (.int i3), .val (.ref b3), .val (.ref b10), .val (.ref b15), .val (.ref b23), .val (.ref b31), .val (.ref b_39)] [(.ref b_39)])) t ∧ _
  obtain ⟨cq44, kq44, q44a, q44b, q44c⟩ := isOf hZ e43 G39_0
  obtain ⟨_, _, ⟨T44, L44, k44, n44⟩, -, X44, ⟨Lc44, hQ44, l44, y44, z44⟩, st44⟩ := X43.virtualBack hx (y := (⟨"com/example/earnest_roster/earnestroster/MergeResult", "getId", "()Ljava/lang/String;"⟩ : MethodName)) (z := (⟨"com/example/earnest_roster/earnestroster/MergeResult", "getId", "()Ljava/lang/String;"⟩ : MethodName)) hown (mvT hZ (hw _ (List.mem_of_getElem? (i := 66) rfl))) (mvT hZ (hw _ (List.mem_of_getElem? (i := 67) rfl))) (notFace_of_selects (args := #[]) (mvT hZ (hw _ (List.mem_of_getElem? (i := 69) rfl)))) (mvT hZ (hw _ (List.mem_of_getElem? (i := 69) rfl))) (mvT hZ (hw _ (List.mem_of_getElem? (i := 68) rfl))) (by decide) (backOf (W := 0) (rmGetI l Z a0 hw [] b_39 T39.heap n0 zl41 G39_2 F40) hZ (hw _ (List.mem_of_getElem? (i := 70) rfl)) (hw _ (List.mem_of_getElem? (i := 43) rfl)) (by decide) (by decide)) q44a q44c (g := (mkF m 100 #[.val (.int i1), .val (.int i2), .val (.int i3), .val (.ref b3), .val (.ref b10), .val (.ref b15), .val (.ref b23), .val (.ref b31), .val (.ref b_39)] [(.ref b_39)])) rfl (by rw [hml]; rfl) (Steps.refl _) (argsL := []) (rest := []) (lenOf pd__28_29Ljava_2flang_2fString_3b rfl) rfl (by show 2 * 0 + _ ≤ _; exact Nat.le_of_eq rfl) (hb hby at_100) (fun _ _ => ⟨rfl, e43, (by decide : 8 + 0 ≤ _), (by decide : 19 + 0 ≤ _)⟩)
  dsimp only [Pt.U, Pt.locs, Pt.cells, Pt.slots] at X44 l44 y44 z44 st44 hQ44
  subst l44 y44 z44
  obtain ⟨rfl, Nq44, e44⟩ := hQ44
  have N44 := Fr.app N42 Nq44
  refine own_goT st44 ?_
  show ∃ t o, Steps p.tables e below (T44.setTop (mkF m 103 #[.val (.int i1), .val (.int i2), .val (.int i3), .val (.ref b3), .val (.ref b10), .val (.ref b15), .val (.ref b23), .val (.ref b31), .val (.ref b_39)] [.null])) t ∧ _
  refine own_go (fun _ => XS.ifnullYes X44.here hx rfl (pc0 := 103) (pc' := 108) rfl (hb hby at_103) rfl (by decide) (by decide)) ?_
  show ∃ t o, Steps p.tables e below (T44.setTop (mkF m 108 #[.val (.int i1), .val (.int i2), .val (.int i3), .val (.ref b3), .val (.ref b10), .val (.ref b15), .val (.ref b23), .val (.ref b31), .val (.ref b_39)] [])) t ∧ _
  refine own_go (fun _ => XS.aload X44.here hx rfl (hb hby at_108) rfl rfl) ?_
  show ∃ t o, Steps p.tables e below (T44.setTop (mkF m 110 #[.val (.int i1), .val (.int i2), .val (.int i3), .val (.ref b3), .val (.ref b10), .val (.ref b15), .val (.ref b23), .val (.ref b31), .val (.ref b_39)] [(.ref b_39)])) t ∧ _
  obtain ⟨cq45, kq45, q45a, q45b, q45c⟩ := isOf hZ e44 G39_0
  obtain ⟨_, _, ⟨T45, L45, k45, n45⟩, -, X45, ⟨Lc45, hQ45, l45, y45, z45⟩, st45⟩ := X44.virtualBack hx (y := (⟨"com/example/earnest_roster/earnestroster/MergeResult", "getError", "()Lcom/example/earnest_roster/earnestroster/ApiError;"⟩ : MethodName)) (z := (⟨"com/example/earnest_roster/earnestroster/MergeResult", "getError", "()Lcom/example/earnest_roster/earnestroster/ApiError;"⟩ : MethodName)) hown (mvT hZ (hw _ (List.mem_of_getElem? (i := 71) rfl))) (mvT hZ (hw _ (List.mem_of_getElem? (i := 72) rfl))) (notFace_of_selects (args := #[]) (mvT hZ (hw _ (List.mem_of_getElem? (i := 74) rfl)))) (mvT hZ (hw _ (List.mem_of_getElem? (i := 74) rfl))) (mvT hZ (hw _ (List.mem_of_getElem? (i := 73) rfl))) (by decide) (backOf (W := 0) (rmGetE l Z a0 hw [] b_39 b31 T39.heap n0 zl41 G39_3 F40) hZ (hw _ (List.mem_of_getElem? (i := 75) rfl)) (hw _ (List.mem_of_getElem? (i := 43) rfl)) (by decide) (by decide)) q45a q45c (g := (mkF m 110 #[.val (.int i1), .val (.int i2), .val (.int i3), .val (.ref b3), .val (.ref b10), .val (.ref b15), .val (.ref b23), .val (.ref b31), .val (.ref b_39)] [(.ref b_39)])) rfl (by rw [hml]; rfl) (Steps.refl _) (argsL := []) (rest := []) (lenOf pd_h9e993125 rfl) rfl (by show 2 * 0 + _ ≤ _; exact Nat.le_of_eq rfl) (hb hby at_110) (fun _ _ => ⟨rfl, e44, (by decide : 8 + 0 ≤ _), (by decide : 19 + 0 ≤ _)⟩)
  dsimp only [Pt.U, Pt.locs, Pt.cells, Pt.slots] at X45 l45 y45 z45 st45 hQ45
  subst l45 y45 z45
  obtain ⟨rfl, Nq45, e45⟩ := hQ45
  have N45 := Fr.app N44 Nq45
  refine own_goT st45 ?_
  show ∃ t o, Steps p.tables e below (T45.setTop (mkF m 113 #[.val (.int i1), .val (.int i2), .val (.int i3), .val (.ref b3), .val (.ref b10), .val (.ref b15), .val (.ref b23), .val (.ref b31), .val (.ref b_39)] [(.ref b31)])) t ∧ _
  refine own_go (fun _ => XS.aload X45.here hx rfl (hb hby at_113) rfl rfl) ?_
  show ∃ t o, Steps p.tables e below (T45.setTop (mkF m 115 #[.val (.int i1), .val (.int i2), .val (.int i3), .val (.ref b3), .val (.ref b10), .val (.ref b15), .val (.ref b23), .val (.ref b31), .val (.ref b_39)] [(.ref b31), (.ref b31)])) t ∧ _
  refine own_go (fun _ => Jvm.RoadKit.acmp (g := (mkF m 115 #[.val (.int i1), .val (.int i2), .val (.int i3), .val (.ref b3), .val (.ref b10), .val (.ref b15), .val (.ref b23), .val (.ref b31), .val (.ref b_39)] [(.ref b31), (.ref b31)])) X45 hx rfl rfl rfl (pc0 := 115) (pc' := 118) (same := true) rfl (hb hby at_115) rfl (decide_eq_true rfl) (by decide) (by decide)) ?_
  show ∃ t o, Steps p.tables e below (T45.setTop (mkF m 118 #[.val (.int i1), .val (.int i2), .val (.int i3), .val (.ref b3), .val (.ref b10), .val (.ref b15), .val (.ref b23), .val (.ref b31), .val (.ref b_39)] [])) t ∧ _
  refine own_go (fun _ => XS.iconst X45.here hx rfl (hb hby at_118)) ?_
  show ∃ t o, Steps p.tables e below (T45.setTop (mkF m 119 #[.val (.int i1), .val (.int i2), .val (.int i3), .val (.ref b3), .val (.ref b10), .val (.ref b15), .val (.ref b23), .val (.ref b31), .val (.ref b_39)] [(.int (1 : Int32))])) t ∧ _
  refine own_go (fun _ => XS.goto X45.here hx rfl (pc0 := 119) (pc' := 123) rfl (hb hby at_119) (by decide) (by decide)) ?_
  show ∃ t o, Steps p.tables e below (T45.setTop (mkF m 123 #[.val (.int i1), .val (.int i2), .val (.int i3), .val (.ref b3), .val (.ref b10), .val (.ref b15), .val (.ref b23), .val (.ref b31), .val (.ref b_39)] [(.int (1 : Int32))])) t ∧ _
  obtain ⟨fs, hr, hrun, hended, hW, hsame⟩ := X45.leave (v := some (.int (1 : Int32))) (fun h => by rw [Bd.returns] at h; cases h)
  refine ⟨_, _, ?_, hrun, hended, _, _, rfl, ?_, ⟨_, rfl⟩, hW, hsame.mono (by decide) (by decide)⟩
  · exact retN X45 hx (t := .boolean) Bd.returns (by simp) (hb hby at_123) hr
  · show Q_rm0 Z i1 i2 i3 wS zc h0 n0 _ T45.heap _
    rw [e45]
    exact ⟨rfl, N45, K39⟩
set_option maxRecDepth 65536 in
set_option maxHeartbeats 40000000 in
theorem comes_1 {Post : Tables → Env → Array Value → State → Outcome → State → Prop} (hpost : ∀ tb e args s v u, (limb_1_1.after args s (.returned v) u = true ∧ limb_1_2.after args s (.returned v) u = true ∧ True) → FrameEnd s (.returned v) u (Jvm.fieldLocs frame_1_writes args s ++ Jvm.arrayLocs frame_1_arrays args s ++ Jvm.staticLocs frame_1_statics s) 24 128 → Post tb e args s (.returned v) u) :
    ArmFor flags0 classFile x code maxLocals ret World_1 tables_1 room_1 Calls_1 rest_1 Pre_1 Post := by
  intro l hfl _ _ p e ha hc hk s m args below hf hA hF happ hP
  obtain ⟨hcalls, hrest, hpre⟩ := hP
  obtain ⟨-, -, -, hnamed, -, -, -, hat⟩ := (Spec.applies_iff hf).mp happ
  obtain ⟨hg, hn⟩ := and_e (Cond.before_iff.mp (show (Jvm.Cond.and given_1 narrow_1).before args s = true from hpre))
  obtain ⟨g1, g2⟩ := and_e hg
  obtain ⟨g3, g4⟩ := and_e g2
  obtain ⟨g5, g6⟩ := and_e g4
  obtain ⟨w0, w1, w2, rfl⟩ : ∃ w0 w1 w2 : Value, args = #[w0, w1, w2] := by
    have hs : args.size = 3 := by simpa [Cond.value, given_1] using g1
    obtain ⟨L⟩ := args
    match L, hs with
    | [w0, w1, w2], _ => exact ⟨w0, w1, w2, rfl⟩
  have hw := fun d (hd : d ∈ tables_1) => atoms_spec (ws := Jvm.Cond.code x code maxLocals ret :: tables_1) hat d (List.mem_cons_of_mem _ hd)
  have hfit : Fit s := fun {y c} hc i hi => by
    obtain ⟨ha, rfl⟩ := Array.getElem?_eq_some_iff.mp hc
    have q := List.all_eq_true.mp ((Array.all_eq_true_iff_forall_mem.mp hF) _ (Array.getElem_mem ha)) i (List.mem_range.mpr hi)
    simpa [Array.getElem?_eq_getElem hi] using q
  obtain ⟨hsets, hown0⟩ := atoms_of _ (rest_1_c_eq ▸ (show rest_1_c.before _ s = true from hrest))
  have hr0 := Cond.before_iff.mp hown0
  obtain ⟨i0, ei0⟩ := is_v g3
  obtain rfl : w0 = (.int i0) := Option.some.inj ei0
  obtain ⟨i1, ei1⟩ := is_v g5
  obtain rfl : w1 = (.int i1) := Option.some.inj ei1
  obtain ⟨i2, ei2⟩ := is_v g6
  obtain rfl : w2 = (.int i2) := Option.some.inj ei2
  have CI : (Jvm.Cond.isInt (Jvm.Term.static "java/lang/String" "COMPACT_STRINGS" "Z")).value _ s none s [] = some true := Cond.before_iff.mp (hsets _ (List.mem_of_getElem? (i := 1) rfl))
  obtain ⟨zc, evc⟩ := is_v CI
  have SCS : Sta s s.heap "java/lang/String" "COMPACT_STRINGS" "Z" (.int zc) := Sta.start evc (Or.inl (hsets _ (List.mem_of_getElem? (i := 0) rfl)))
  have hzc : ¬ (zc = (0 : Int32)) := gotF (Cond.eq_ints evc (Term.int_eval (0 : Int32))) (not_v (Cond.before_iff.mp (hsets _ (List.mem_of_getElem? (i := 2) rfl))))
  obtain ⟨wS, ev⟩ := exa_v hn
  have S0 : Sta s s.heap "com/example/earnest_roster/earnestroster/MergeResult$Status" "REJECTED" "Lcom/example/earnest_roster/earnestroster/MergeResult$Status;" (.ref wS) := Sta.start ev (Or.inr ⟨(hw _ (List.mem_of_getElem? (i := 48) rfl)), (hw _ (List.mem_of_getElem? (i := 49) rfl))⟩)
  have OLD := Old.start s
  obtain ⟨n, o, h1, h2, h3, _, L, rfl, ⟨rfl, N, -⟩, hq⟩ := rm0 l s _ hw tables_1 i0 i1 i2 wS zc s.heap s.heap.size (Nat.le_refl _) OLD S0 SCS hzc p e ha hc hk s m _ below hf ((Spec.applies_iff_loose hf).mp happ).1 ⟨rfl, State.Warmed39.refl s, rfl⟩ trivial
  refine ⟨n, _, h1, h2, h3, hpost _ _ _ _ _ _ ⟨Cond.after_iff.mpr rfl, Cond.after_iff.mpr (eq_i res_at (Term.int_eval (1)) rfl), trivial⟩ ⟨hq.1, hq.2.1, (hq.2.2.sift fun y hy => Or.inr (N y hy)).mono (by decide) (by decide)⟩⟩
theorem main_1_1 : Claimed_1_1 := comes_1 fun _ _ _ _ _ _ h hF => ⟨h.1, hF⟩
theorem main_1_2 : Claimed_1_2 := comes_1 fun _ _ _ _ _ _ h hF => ⟨h.2.1, hF⟩
end Jvm.Pilot.@@N@@
namespace Jvm.Pilot.@@N@@
open Jvm Jvm.ClassFile Sem Op Lib Jvm.Free Jvm.Stand Jvm.Pilot.@@N@@.Jvm.D
/-! MADE BY PROGRAM (witnessworld.py) out of the Statement's table words and the real class files: 23 classes; the members and pool entries that the words name. The judged class is class 1, her method 1. -/
namespace start1
open Jvm.ClassFile
def u (s : String) : CpInfo := .utf8 (stringToUtf16 s)
/-- a pool by its gaps: so many unusable entries, then the entry; so many at the end -/
def gap : Nat → List CpInfo → List CpInfo
  | 0, r => r
  | n + 1, r => .unusable :: gap n r
def poolList (es : List (Nat × CpInfo)) (last : Nat) : List CpInfo := es.foldr (fun e r => gap e.1 (e.2 :: r)) (gap last [])
def pool (es : List (Nat × CpInfo)) (last : Nat) : Array CpInfo := ⟨poolList es last⟩
def fileOf (pool : Array CpInfo) (this : Nat) (attrs : Array Attribute := #[]) (ms : Array MethodInfo := #[]) (fl : Nat := 33) (sup : Nat := 0) (ifs : Array Nat := #[]) (fds : Array FieldInfo := #[]) : ClassFile where
  minorVersion := 0
  majorVersion := 65
  constantPool := pool
  accessFlags := fl
  thisClass := this
  superClass := sup
  interfaces := ifs
  fields := fds
  methods := ms
  attributes := attrs
def plain (name : String) (sup : Option ClassId) : Class where
  name := name
  kind := .ordinary
  loader := none
  accessFlags := 33
  super := sup
  interfaces := #[]
  cf := none
  fields := #[]
  methods := #[]
  instanceTypes := #[]
  staticTypes := #[]
  resolved := #[]
  callSites := []
  init := .initialized
  statics := none
  mirror := none

def pool0 : Array CpInfo := pool [(5, u "<init>"), (0, u "()V"), (1, .class_ 10), (1, u "java/lang/Object")] 113

def k0c0 : Code := { maxStack := 0, maxLocals := 1, code := object_method_1_code, exceptionTable := #[], attributes := #[] }
def k0m0 : Method := { name := "<init>", desc := "()V", sig := { parameters := [], returnType := none }, accessFlags := 1, code := some k0c0 }
/-- java/lang/Object -/
def k0 : Class := { plain "java/lang/Object" none with
  accessFlags := 33
  interfaces := #[]
  cf := some (fileOf pool0 8 #[] #[{ accessFlags := 1, nameIndex := 5, descriptorIndex := 6, attributes := #[] }] 33 0 #[] #[])
  fields := #[]
  methods := #[k0m0]
  instanceTypes := #[]
  staticTypes := #[]
  resolved := Array.replicate 124 none
  statics := none }

def pool1 : Array CpInfo := pool [(2, .class_ 4), (1, u "java/lang/Object"), (0, u "<init>"), (0, u "()V"), (0, .class_ 8), (0, u "java/lang/String"), (0, .methodref 7 10), (0, .nameAndType 5 11), (0, u "([C)V"), (0, .class_ 13), (0, u "com/example/earnest_roster/earnestroster/ApiError"), (0, .methodref 12 15), (0, .nameAndType 5 16), (0, u "(Ljava/lang/String;Ljava/lang/String;)V"), (0, .methodref 18 19), (0, .class_ 20), (0, .nameAndType 21 22), (0, u "com/example/earnest_roster/earnestroster/MergeResult"), (0, u "rejected"), (0, u "(Lcom/example/earnest_roster/earnestroster/ApiError;)Lcom/example/earnest_roster/earnestroster/MergeResult;"), (0, .methodref 18 24), (0, .nameAndType 25 26), (0, u "getStatus"), (0, u "()Lcom/example/earnest_roster/earnestroster/MergeResult$Status;"), (0, .fieldref 28 29), (0, .class_ 30), (0, .nameAndType 31 32), (0, u "com/example/earnest_roster/earnestroster/MergeResult$Status"), (0, u "REJECTED"), (0, u "Lcom/example/earnest_roster/earnestroster/MergeResult$Status;"), (0, .methodref 18 34), (0, .nameAndType 35 36), (0, u "getId"), (0, u "()Ljava/lang/String;"), (0, .methodref 18 38), (0, .nameAndType 39 40), (0, u "getError"), (0, u "()Lcom/example/earnest_roster/earnestroster/ApiError;"), (0, .class_ 42), (0, u "com/example/earnest_roster/earnestroster/MergeResultRejectedPinLaw"), (2, u "law"), (0, u "(III)Z")] 7

def k1m0 : Method := { name := "<init>", desc := "()V", sig := { parameters := [], returnType := none }, accessFlags := 1, code := none }
def k1c1 : Code := { maxStack := 4, maxLocals := 9, code := code, exceptionTable := #[], attributes := #[] }
def k1m1 : Method := { name := "law", desc := "(III)Z", sig := { parameters := [.int, .int, .int], returnType := some .boolean }, accessFlags := 9, code := some k1c1 }
/-- com/example/earnest_roster/earnestroster/MergeResultRejectedPinLaw -/
def k1 : Class := { plain "com/example/earnest_roster/earnestroster/MergeResultRejectedPinLaw" (some 0) with
  accessFlags := 49
  interfaces := #[]
  cf := some (fileOf pool1 41 #[] #[{ accessFlags := 1, nameIndex := 5, descriptorIndex := 6, attributes := #[] }, { accessFlags := 9, nameIndex := 45, descriptorIndex := 46, attributes := #[] }] 49 2 #[] #[])
  fields := #[]
  methods := #[k1m0, k1m1]
  instanceTypes := #[]
  staticTypes := #[]
  resolved := Array.replicate 54 none
  statics := none }

def pool2 : Array CpInfo := pool [(1, .class_ 2), (0, u "java/io/Serializable"), (0, .class_ 4), (0, u "java/lang/Object")] 2

/-- java/io/Serializable -/
def k2 : Class := { plain "java/io/Serializable" (some 0) with
  accessFlags := 1537
  interfaces := #[]
  cf := some (fileOf pool2 1 #[] #[] 1537 3 #[] #[])
  fields := #[]
  methods := #[]
  instanceTypes := #[]
  staticTypes := #[]
  resolved := Array.replicate 7 none
  statics := none }

def pool3 : Array CpInfo := pool [(1, .class_ 2), (0, u "java/lang/Comparable"), (0, .class_ 4), (0, u "java/lang/Object")] 7

/-- java/lang/Comparable -/
def k3 : Class := { plain "java/lang/Comparable" (some 0) with
  accessFlags := 1537
  interfaces := #[]
  cf := some (fileOf pool3 1 #[] #[] 1537 3 #[] #[])
  fields := #[]
  methods := #[]
  instanceTypes := #[]
  staticTypes := #[]
  resolved := Array.replicate 12 none
  statics := none }

def pool4 : Array CpInfo := pool [(2, .class_ 4), (1, u "java/lang/CharSequence"), (42, .class_ 48), (0, u "java/lang/CharSequence$1CodePointIterator"), (10, .class_ 60), (0, u "java/lang/CharSequence$1CharIterator"), (5, .class_ 67), (0, u "java/lang/Object")] 63

/-- java/lang/CharSequence -/
def k4 : Class := { plain "java/lang/CharSequence" (some 0) with
  accessFlags := 1537
  interfaces := #[]
  cf := some (fileOf pool4 2 #[.nestMembers #[47, 59]] #[] 1537 66 #[] #[])
  fields := #[]
  methods := #[]
  instanceTypes := #[]
  staticTypes := #[]
  resolved := Array.replicate 131 none
  statics := none }

def pool5 : Array CpInfo := pool [(1, .class_ 2), (0, u "java/lang/constant/Constable"), (0, .class_ 4), (0, u "java/lang/Object")] 6

/-- java/lang/constant/Constable -/
def k5 : Class := { plain "java/lang/constant/Constable" (some 0) with
  accessFlags := 1537
  interfaces := #[]
  cf := some (fileOf pool5 1 #[] #[] 1537 3 #[] #[])
  fields := #[]
  methods := #[]
  instanceTypes := #[]
  staticTypes := #[]
  resolved := Array.replicate 11 none
  statics := none }

def pool6 : Array CpInfo := pool [(1, .class_ 2), (0, u "java/lang/constant/ConstantDesc"), (0, .class_ 4), (0, u "java/lang/Object")] 32

/-- java/lang/constant/ConstantDesc -/
def k6 : Class := { plain "java/lang/constant/ConstantDesc" (some 0) with
  accessFlags := 1537
  interfaces := #[]
  cf := some (fileOf pool6 1 #[] #[] 1537 3 #[] #[])
  fields := #[]
  methods := #[]
  instanceTypes := #[]
  staticTypes := #[]
  resolved := Array.replicate 37 none
  statics := none }

def pool7 : Array CpInfo := pool [(1, .methodref 2 3), (0, .class_ 4), (0, .nameAndType 5 6), (0, u "java/lang/Object"), (0, u "<init>"), (0, u "()V"), (2, .fieldref 10 11), (0, .class_ 12), (0, .nameAndType 13 14), (0, u "java/lang/String"), (0, u "value"), (0, u "[B"), (0, .fieldref 10 16), (0, .nameAndType 17 18), (0, u "coder"), (0, u "B"), (2, u "hash"), (0, u "I"), (2, u "hashIsZero"), (0, u "Z"), (0, .methodref 10 28), (0, .nameAndType 5 29), (0, u "([CIILjava/lang/Void;)V"), (8, .fieldref 10 39), (0, .nameAndType 40 26), (0, u "COMPACT_STRINGS"), (1, .class_ 44), (1, u "java/lang/StringUTF16"), (0, u "compress"), (1, .methodref 42 48), (0, .nameAndType 49 50), (0, u "coderFromArrayLen"), (0, u "([BI)B"), (126, .methodref 42 178), (0, .nameAndType 45 179), (0, u "([CII)[B"), (395, .class_ 576), (0, u "java/lang/CharSequence"), (22, u "CASE_INSENSITIVE_ORDER"), (0, u "Ljava/util/Comparator;"), (409, u "([C)V"), (90, u "serialPersistentFields"), (0, u "[Ljava/io/ObjectStreamField;"), (0, .class_ 1104), (0, u "java/lang/String$CaseInsensitiveComparator"), (1, .class_ 1107), (0, u "java/io/Serializable"), (0, .class_ 1109), (0, u "java/lang/Comparable"), (0, .class_ 1111), (0, u "java/lang/constant/Constable"), (0, .class_ 1113), (0, u "java/lang/constant/ConstantDesc"), (2, u "serialVersionUID"), (0, u "J"), (3, u "REPL"), (0, u "C"), (2, u "LATIN1"), (1, u "UTF16")] 323

def k7m0 : Method := { name := "<init>", desc := "()V", sig := { parameters := [], returnType := none }, accessFlags := 1, code := none }
def k7c1 : Code := { maxStack := 5, maxLocals := 2, code := jdk_42_method_3_code, exceptionTable := #[], attributes := #[] }
def k7m1 : Method := { name := "<init>", desc := "([C)V", sig := { parameters := [(.array .char)], returnType := none }, accessFlags := 1, code := some k7c1 }
def k7c2 : Code := { maxStack := 4, maxLocals := 6, code := jdk_42_method_149_code, exceptionTable := #[], attributes := #[] }
def k7m2 : Method := { name := "<init>", desc := "([CIILjava/lang/Void;)V", sig := { parameters := [(.array .char), .int, .int, (.object "java/lang/Void")], returnType := none }, accessFlags := 2, code := some k7c2 }
/-- java/lang/String -/
def k7 : Class := { plain "java/lang/String" (some 0) with
  accessFlags := 49
  interfaces := #[2, 3, 4, 5, 6]
  cf := some (fileOf pool7 10 #[.nestMembers #[1103]] #[{ accessFlags := 1, nameIndex := 5, descriptorIndex := 6, attributes := #[] }, { accessFlags := 1, nameIndex := 5, descriptorIndex := 1010, attributes := #[] }, { accessFlags := 2, nameIndex := 5, descriptorIndex := 29, attributes := #[] }] 49 2 #[1106, 1108, 575, 1110, 1112] #[{ accessFlags := 18, nameIndex := 13, descriptorIndex := 14, attributes := #[] }, { accessFlags := 18, nameIndex := 17, descriptorIndex := 18, attributes := #[] }, { accessFlags := 2, nameIndex := 21, descriptorIndex := 22, attributes := #[] }, { accessFlags := 2, nameIndex := 25, descriptorIndex := 26, attributes := #[] }, { accessFlags := 26, nameIndex := 1116, descriptorIndex := 1117, attributes := #[] }, { accessFlags := 24, nameIndex := 40, descriptorIndex := 26, attributes := #[] }, { accessFlags := 26, nameIndex := 1101, descriptorIndex := 1102, attributes := #[] }, { accessFlags := 26, nameIndex := 1121, descriptorIndex := 1122, attributes := #[] }, { accessFlags := 25, nameIndex := 599, descriptorIndex := 600, attributes := #[] }, { accessFlags := 24, nameIndex := 1125, descriptorIndex := 18, attributes := #[] }, { accessFlags := 24, nameIndex := 1127, descriptorIndex := 18, attributes := #[] }])
  fields := #[{ name := "value", type := (.array .byte), accessFlags := 18, slot := 0, constantValue := 0 }, { name := "coder", type := .byte, accessFlags := 18, slot := 1, constantValue := 0 }, { name := "hash", type := .int, accessFlags := 2, slot := 2, constantValue := 0 }, { name := "hashIsZero", type := .boolean, accessFlags := 2, slot := 3, constantValue := 0 }, { name := "serialVersionUID", type := .long, accessFlags := 26, slot := 0, constantValue := 0 }, { name := "COMPACT_STRINGS", type := .boolean, accessFlags := 24, slot := 1, constantValue := 0 }, { name := "serialPersistentFields", type := (.array (.object "java/io/ObjectStreamField")), accessFlags := 26, slot := 2, constantValue := 0 }, { name := "REPL", type := .char, accessFlags := 26, slot := 3, constantValue := 0 }, { name := "CASE_INSENSITIVE_ORDER", type := (.object "java/util/Comparator"), accessFlags := 25, slot := 4, constantValue := 0 }, { name := "LATIN1", type := .byte, accessFlags := 24, slot := 5, constantValue := 0 }, { name := "UTF16", type := .byte, accessFlags := 24, slot := 6, constantValue := 0 }]
  methods := #[k7m0, k7m1, k7m2]
  instanceTypes := #[(.array .byte), .byte, .int, .boolean]
  staticTypes := #[.long, .boolean, (.array (.object "java/io/ObjectStreamField")), .char, (.object "java/util/Comparator"), .byte, .byte]
  resolved := Array.replicate 1451 none
  statics := some 0 }

def pool8 : Array CpInfo := pool [(6, .class_ 8), (1, u "java/lang/Object"), (0, u "<init>"), (0, u "()V"), (1, .class_ 14), (1, u "java/lang/StringUTF16"), (31, u "$assertionsDisabled"), (0, u "Z"), (13, u "HI_BYTE_SHIFT"), (0, u "I"), (2, u "LO_BYTE_SHIFT"), (49, .methodref 12 116), (0, .nameAndType 117 118), (0, u "compress"), (0, u "([CI[BII)I"), (3, u "([CII)[B"), (138, u "coderFromArrayLen"), (0, u "([BI)B"), (106, .class_ 371), (1, u "java/lang/StringUTF16$LinesSpliterator"), (58, u "MAX_LENGTH"), (196, .class_ 628), (0, u "java/lang/StringUTF16$CodePointsSpliterator"), (0, .class_ 630), (0, u "java/lang/StringUTF16$CharsSpliterator")] 4

def k8m0 : Method := { name := "<init>", desc := "()V", sig := { parameters := [], returnType := none }, accessFlags := 0, code := none }
def k8c1 : Code := { maxStack := 2, maxLocals := 2, code := jdk_52_method_15_code, exceptionTable := #[], attributes := #[] }
def k8m1 : Method := { name := "coderFromArrayLen", desc := "([BI)B", sig := { parameters := [(.array .byte), .int], returnType := some .byte }, accessFlags := 8, code := some k8c1 }
def k8c2 : Code := { maxStack := 5, maxLocals := 6, code := jdk_52_method_16_code, exceptionTable := #[], attributes := #[] }
def k8m2 : Method := { name := "compress", desc := "([CII)[B", sig := { parameters := [(.array .char), .int, .int], returnType := some (.array .byte) }, accessFlags := 9, code := some k8c2 }
def k8c3 : Code := { maxStack := 3, maxLocals := 7, code := jdk_52_method_21_code, exceptionTable := #[], attributes := #[] }
def k8m3 : Method := { name := "compress", desc := "([CI[BII)I", sig := { parameters := [(.array .char), .int, (.array .byte), .int, .int], returnType := some .int }, accessFlags := 9, code := some k8c3 }
/-- java/lang/StringUTF16 -/
def k8 : Class := { plain "java/lang/StringUTF16" (some 0) with
  accessFlags := 48
  interfaces := #[]
  cf := some (fileOf pool8 12 #[.nestMembers #[627, 629, 369]] #[{ accessFlags := 0, nameIndex := 9, descriptorIndex := 10, attributes := #[] }, { accessFlags := 8, nameIndex := 261, descriptorIndex := 262, attributes := #[] }, { accessFlags := 9, nameIndex := 117, descriptorIndex := 122, attributes := #[] }, { accessFlags := 9, nameIndex := 117, descriptorIndex := 118, attributes := #[] }] 48 6 #[] #[{ accessFlags := 26, nameIndex := 61, descriptorIndex := 62, attributes := #[] }, { accessFlags := 26, nameIndex := 65, descriptorIndex := 62, attributes := #[] }, { accessFlags := 24, nameIndex := 430, descriptorIndex := 62, attributes := #[] }, { accessFlags := 4120, nameIndex := 46, descriptorIndex := 47, attributes := #[] }])
  fields := #[{ name := "HI_BYTE_SHIFT", type := .int, accessFlags := 26, slot := 0, constantValue := 0 }, { name := "LO_BYTE_SHIFT", type := .int, accessFlags := 26, slot := 1, constantValue := 0 }, { name := "MAX_LENGTH", type := .int, accessFlags := 24, slot := 2, constantValue := 0 }, { name := "$assertionsDisabled", type := .boolean, accessFlags := 4120, slot := 3, constantValue := 0 }]
  methods := #[k8m0, k8m1, k8m2, k8m3]
  instanceTypes := #[]
  staticTypes := #[.int, .int, .int, .boolean]
  resolved := Array.replicate 635 none
  statics := none }

def pool9 : Array CpInfo := pool [(1, .methodref 2 3), (0, .class_ 4), (0, .nameAndType 5 6), (0, u "java/lang/Object"), (0, u "<init>"), (0, u "()V"), (0, .fieldref 8 9), (0, .class_ 10), (0, .nameAndType 11 12), (0, u "com/example/earnest_roster/earnestroster/ApiError"), (0, u "code"), (0, u "Ljava/lang/String;"), (0, .fieldref 8 14), (0, .nameAndType 15 12), (0, u "message"), (8, u "(Ljava/lang/String;Ljava/lang/String;)V"), (4, u "INVALID_OPTION"), (3, u "INVALID_BATCH"), (2, u "NOT_FOUND")] 30

def k9c0 : Code := { maxStack := 2, maxLocals := 3, code := prog_1_method_1_code, exceptionTable := #[], attributes := #[] }
def k9m0 : Method := { name := "<init>", desc := "(Ljava/lang/String;Ljava/lang/String;)V", sig := { parameters := [(.object "java/lang/String"), (.object "java/lang/String")], returnType := none }, accessFlags := 0, code := some k9c0 }
/-- com/example/earnest_roster/earnestroster/ApiError -/
def k9 : Class := { plain "com/example/earnest_roster/earnestroster/ApiError" (some 0) with
  accessFlags := 32
  interfaces := #[]
  cf := some (fileOf pool9 8 #[] #[{ accessFlags := 0, nameIndex := 5, descriptorIndex := 24, attributes := #[] }] 32 2 #[] #[{ accessFlags := 24, nameIndex := 29, descriptorIndex := 12, attributes := #[] }, { accessFlags := 24, nameIndex := 33, descriptorIndex := 12, attributes := #[] }, { accessFlags := 24, nameIndex := 36, descriptorIndex := 12, attributes := #[] }, { accessFlags := 18, nameIndex := 11, descriptorIndex := 12, attributes := #[] }, { accessFlags := 18, nameIndex := 15, descriptorIndex := 12, attributes := #[] }])
  fields := #[{ name := "INVALID_OPTION", type := (.object "java/lang/String"), accessFlags := 24, slot := 0, constantValue := 0 }, { name := "INVALID_BATCH", type := (.object "java/lang/String"), accessFlags := 24, slot := 1, constantValue := 0 }, { name := "NOT_FOUND", type := (.object "java/lang/String"), accessFlags := 24, slot := 2, constantValue := 0 }, { name := "code", type := (.object "java/lang/String"), accessFlags := 18, slot := 0, constantValue := 0 }, { name := "message", type := (.object "java/lang/String"), accessFlags := 18, slot := 1, constantValue := 0 }]
  methods := #[k9m0]
  instanceTypes := #[(.object "java/lang/String"), (.object "java/lang/String")]
  staticTypes := #[(.object "java/lang/String"), (.object "java/lang/String"), (.object "java/lang/String")]
  resolved := Array.replicate 67 none
  statics := none }

def pool10 : Array CpInfo := pool [(1, .methodref 2 3), (0, .class_ 4), (0, .nameAndType 5 6), (0, u "java/lang/Object"), (0, u "<init>"), (0, u "()V"), (0, .fieldref 8 9), (0, .class_ 10), (0, .nameAndType 11 12), (0, u "com/example/earnest_roster/earnestroster/MergeResult"), (0, u "status"), (0, u "Lcom/example/earnest_roster/earnestroster/MergeResult$Status;"), (0, .fieldref 8 14), (0, .nameAndType 15 16), (0, u "id"), (0, u "Ljava/lang/String;"), (0, .fieldref 8 18), (0, .nameAndType 19 20), (0, u "error"), (0, u "Lcom/example/earnest_roster/earnestroster/ApiError;"), (0, .methodref 8 22), (0, .nameAndType 5 23), (0, u "(Lcom/example/earnest_roster/earnestroster/MergeResult$Status;Ljava/lang/String;Lcom/example/earnest_roster/earnestroster/ApiError;)V"), (1, .class_ 27), (1, u "com/example/earnest_roster/earnestroster/MergeResult$Status"), (1, .fieldref 25 30), (0, .nameAndType 31 12), (0, u "REJECTED"), (6, u "rejected"), (0, u "(Lcom/example/earnest_roster/earnestroster/ApiError;)Lcom/example/earnest_roster/earnestroster/MergeResult;"), (0, u "getStatus"), (0, u "()Lcom/example/earnest_roster/earnestroster/MergeResult$Status;"), (0, u "getId"), (0, u "()Ljava/lang/String;"), (0, u "getError"), (0, u "()Lcom/example/earnest_roster/earnestroster/ApiError;")] 5

def k10c0 : Code := { maxStack := 2, maxLocals := 4, code := prog_12_method_1_code, exceptionTable := #[], attributes := #[] }
def k10m0 : Method := { name := "<init>", desc := "(Lcom/example/earnest_roster/earnestroster/MergeResult$Status;Ljava/lang/String;Lcom/example/earnest_roster/earnestroster/ApiError;)V", sig := { parameters := [(.object "com/example/earnest_roster/earnestroster/MergeResult$Status"), (.object "java/lang/String"), (.object "com/example/earnest_roster/earnestroster/ApiError")], returnType := none }, accessFlags := 2, code := some k10c0 }
def k10c1 : Code := { maxStack := 5, maxLocals := 1, code := prog_12_method_4_code, exceptionTable := #[], attributes := #[] }
def k10m1 : Method := { name := "rejected", desc := "(Lcom/example/earnest_roster/earnestroster/ApiError;)Lcom/example/earnest_roster/earnestroster/MergeResult;", sig := { parameters := [(.object "com/example/earnest_roster/earnestroster/ApiError")], returnType := some (.object "com/example/earnest_roster/earnestroster/MergeResult") }, accessFlags := 8, code := some k10c1 }
def k10c2 : Code := { maxStack := 1, maxLocals := 1, code := prog_12_method_5_code, exceptionTable := #[], attributes := #[] }
def k10m2 : Method := { name := "getStatus", desc := "()Lcom/example/earnest_roster/earnestroster/MergeResult$Status;", sig := { parameters := [], returnType := some (.object "com/example/earnest_roster/earnestroster/MergeResult$Status") }, accessFlags := 0, code := some k10c2 }
def k10c3 : Code := { maxStack := 1, maxLocals := 1, code := prog_12_method_6_code, exceptionTable := #[], attributes := #[] }
def k10m3 : Method := { name := "getId", desc := "()Ljava/lang/String;", sig := { parameters := [], returnType := some (.object "java/lang/String") }, accessFlags := 0, code := some k10c3 }
def k10c4 : Code := { maxStack := 1, maxLocals := 1, code := prog_12_method_7_code, exceptionTable := #[], attributes := #[] }
def k10m4 : Method := { name := "getError", desc := "()Lcom/example/earnest_roster/earnestroster/ApiError;", sig := { parameters := [], returnType := some (.object "com/example/earnest_roster/earnestroster/ApiError") }, accessFlags := 0, code := some k10c4 }
/-- com/example/earnest_roster/earnestroster/MergeResult -/
def k10 : Class := { plain "com/example/earnest_roster/earnestroster/MergeResult" (some 0) with
  accessFlags := 32
  interfaces := #[]
  cf := some (fileOf pool10 8 #[.nestMembers #[25]] #[{ accessFlags := 2, nameIndex := 5, descriptorIndex := 23, attributes := #[] }, { accessFlags := 8, nameIndex := 38, descriptorIndex := 39, attributes := #[] }, { accessFlags := 0, nameIndex := 40, descriptorIndex := 41, attributes := #[] }, { accessFlags := 0, nameIndex := 42, descriptorIndex := 43, attributes := #[] }, { accessFlags := 0, nameIndex := 44, descriptorIndex := 45, attributes := #[] }] 32 2 #[] #[{ accessFlags := 18, nameIndex := 11, descriptorIndex := 12, attributes := #[] }, { accessFlags := 18, nameIndex := 15, descriptorIndex := 16, attributes := #[] }, { accessFlags := 18, nameIndex := 19, descriptorIndex := 20, attributes := #[] }])
  fields := #[{ name := "status", type := (.object "com/example/earnest_roster/earnestroster/MergeResult$Status"), accessFlags := 18, slot := 0, constantValue := 0 }, { name := "id", type := (.object "java/lang/String"), accessFlags := 18, slot := 1, constantValue := 0 }, { name := "error", type := (.object "com/example/earnest_roster/earnestroster/ApiError"), accessFlags := 18, slot := 2, constantValue := 0 }]
  methods := #[k10m0, k10m1, k10m2, k10m3, k10m4]
  instanceTypes := #[(.object "com/example/earnest_roster/earnestroster/MergeResult$Status"), (.object "java/lang/String"), (.object "com/example/earnest_roster/earnestroster/ApiError")]
  staticTypes := #[]
  resolved := Array.replicate 51 none
  statics := none }

def pool11 : Array CpInfo := pool [(2, .class_ 4), (1, u "java/lang/Enum"), (0, u "name"), (0, u "Ljava/lang/String;"), (2, u "ordinal"), (0, u "I"), (1, .class_ 14), (1, u "java/lang/Object"), (4, u "hash"), (86, .class_ 108), (1, u "java/lang/Enum$EnumDesc"), (2, .class_ 112), (0, u "java/lang/constant/Constable"), (0, .class_ 114), (0, u "java/lang/Comparable"), (0, .class_ 116), (0, u "java/io/Serializable")] 87

/-- java/lang/Enum -/
def k11 : Class := { plain "java/lang/Enum" (some 0) with
  accessFlags := 1057
  interfaces := #[5, 3, 2]
  cf := some (fileOf pool11 2 #[.nestMembers #[106]] #[] 1057 12 #[111, 113, 115] #[{ accessFlags := 18, nameIndex := 5, descriptorIndex := 6, attributes := #[] }, { accessFlags := 18, nameIndex := 9, descriptorIndex := 10, attributes := #[] }, { accessFlags := 2, nameIndex := 19, descriptorIndex := 10, attributes := #[] }])
  fields := #[{ name := "name", type := (.object "java/lang/String"), accessFlags := 18, slot := 0, constantValue := 0 }, { name := "ordinal", type := .int, accessFlags := 18, slot := 1, constantValue := 0 }, { name := "hash", type := .int, accessFlags := 2, slot := 2, constantValue := 0 }]
  methods := #[]
  instanceTypes := #[(.object "java/lang/String"), .int, .int]
  staticTypes := #[]
  resolved := Array.replicate 204 none
  statics := none }

def pool12 : Array CpInfo := pool [(1, .class_ 2), (0, u "com/example/earnest_roster/earnestroster/MergeResult$Status"), (2, u "CREATED"), (0, u "Lcom/example/earnest_roster/earnestroster/MergeResult$Status;"), (2, u "UPDATED"), (2, u "UNCHANGED"), (2, u "SKIPPED"), (2, u "REJECTED"), (2, u "$VALUES"), (0, u "[Lcom/example/earnest_roster/earnestroster/MergeResult$Status;"), (6, .class_ 31), (1, u "java/lang/Enum"), (28, .class_ 61), (0, u "com/example/earnest_roster/earnestroster/MergeResult")] 2

/-- com/example/earnest_roster/earnestroster/MergeResult$Status -/
def k12 : Class := { plain "com/example/earnest_roster/earnestroster/MergeResult$Status" (some 11) with
  accessFlags := 16432
  interfaces := #[]
  cf := some (fileOf pool12 1 #[.nestHost 60] #[] 16432 29 #[] #[{ accessFlags := 16409, nameIndex := 5, descriptorIndex := 6, attributes := #[] }, { accessFlags := 16409, nameIndex := 9, descriptorIndex := 6, attributes := #[] }, { accessFlags := 16409, nameIndex := 12, descriptorIndex := 6, attributes := #[] }, { accessFlags := 16409, nameIndex := 15, descriptorIndex := 6, attributes := #[] }, { accessFlags := 16409, nameIndex := 18, descriptorIndex := 6, attributes := #[] }, { accessFlags := 4122, nameIndex := 21, descriptorIndex := 22, attributes := #[] }])
  fields := #[{ name := "CREATED", type := (.object "com/example/earnest_roster/earnestroster/MergeResult$Status"), accessFlags := 16409, slot := 0, constantValue := 0 }, { name := "UPDATED", type := (.object "com/example/earnest_roster/earnestroster/MergeResult$Status"), accessFlags := 16409, slot := 1, constantValue := 0 }, { name := "UNCHANGED", type := (.object "com/example/earnest_roster/earnestroster/MergeResult$Status"), accessFlags := 16409, slot := 2, constantValue := 0 }, { name := "SKIPPED", type := (.object "com/example/earnest_roster/earnestroster/MergeResult$Status"), accessFlags := 16409, slot := 3, constantValue := 0 }, { name := "REJECTED", type := (.object "com/example/earnest_roster/earnestroster/MergeResult$Status"), accessFlags := 16409, slot := 4, constantValue := 0 }, { name := "$VALUES", type := (.array (.object "com/example/earnest_roster/earnestroster/MergeResult$Status")), accessFlags := 4122, slot := 5, constantValue := 0 }]
  methods := #[]
  instanceTypes := #[(.object "java/lang/String"), .int, .int]
  staticTypes := #[(.object "com/example/earnest_roster/earnestroster/MergeResult$Status"), (.object "com/example/earnest_roster/earnestroster/MergeResult$Status"), (.object "com/example/earnest_roster/earnestroster/MergeResult$Status"), (.object "com/example/earnest_roster/earnestroster/MergeResult$Status"), (.object "com/example/earnest_roster/earnestroster/MergeResult$Status"), (.array (.object "com/example/earnest_roster/earnestroster/MergeResult$Status"))]
  resolved := Array.replicate 64 none
  statics := some 1 }

def pool13 : Array CpInfo := pool [(4, .class_ 6), (1, u "java/lang/Object"), (0, u "<init>"), (0, u "()V"), (5, .class_ 16), (1, u "java/lang/StringLatin1"), (104, u "$assertionsDisabled"), (0, u "Z"), (98, .class_ 223), (1, u "java/lang/StringLatin1$LinesSpliterator"), (166, .class_ 391), (0, u "java/lang/StringLatin1$CharsSpliterator")] 3

def k13m0 : Method := { name := "<init>", desc := "()V", sig := { parameters := [], returnType := none }, accessFlags := 0, code := none }
/-- java/lang/StringLatin1 -/
def k13 : Class := { plain "java/lang/StringLatin1" (some 0) with
  accessFlags := 48
  interfaces := #[]
  cf := some (fileOf pool13 14 #[.nestMembers #[390, 221]] #[{ accessFlags := 0, nameIndex := 7, descriptorIndex := 8, attributes := #[] }] 48 4 #[] #[{ accessFlags := 4120, nameIndex := 121, descriptorIndex := 122, attributes := #[] }])
  fields := #[{ name := "$assertionsDisabled", type := .boolean, accessFlags := 4120, slot := 0, constantValue := 0 }]
  methods := #[k13m0]
  instanceTypes := #[]
  staticTypes := #[.boolean]
  resolved := Array.replicate 395 none
  statics := none }

def pool14 : Array CpInfo := pool [(2, .class_ 4), (1, u "java/lang/Object"), (0, u "<init>"), (0, u "()V"), (17, .class_ 26), (1, u "jdk/internal/util/Preconditions"), (28, .class_ 56), (0, u "jdk/internal/util/Preconditions$4"), (57, .class_ 115), (0, u "jdk/internal/util/Preconditions$1"), (7, u "SIOOBE_FORMATTER"), (0, u "Ljava/util/function/BiFunction;"), (0, .class_ 126), (0, u "jdk/internal/util/Preconditions$2"), (3, u "AIOOBE_FORMATTER"), (0, .class_ 132), (0, u "jdk/internal/util/Preconditions$3"), (3, u "IOOBE_FORMATTER")] 57

def k14m0 : Method := { name := "<init>", desc := "()V", sig := { parameters := [], returnType := none }, accessFlags := 1, code := none }
/-- jdk/internal/util/Preconditions -/
def k14 : Class := { plain "jdk/internal/util/Preconditions" (some 0) with
  accessFlags := 33
  interfaces := #[]
  cf := some (fileOf pool14 24 #[.nestMembers #[55, 131, 125, 114]] #[{ accessFlags := 1, nameIndex := 5, descriptorIndex := 6, attributes := #[] }] 33 2 #[] #[{ accessFlags := 25, nameIndex := 123, descriptorIndex := 124, attributes := #[] }, { accessFlags := 25, nameIndex := 130, descriptorIndex := 124, attributes := #[] }, { accessFlags := 25, nameIndex := 136, descriptorIndex := 124, attributes := #[] }])
  fields := #[{ name := "SIOOBE_FORMATTER", type := (.object "java/util/function/BiFunction"), accessFlags := 25, slot := 0, constantValue := 0 }, { name := "AIOOBE_FORMATTER", type := (.object "java/util/function/BiFunction"), accessFlags := 25, slot := 1, constantValue := 0 }, { name := "IOOBE_FORMATTER", type := (.object "java/util/function/BiFunction"), accessFlags := 25, slot := 2, constantValue := 0 }]
  methods := #[k14m0]
  instanceTypes := #[]
  staticTypes := #[(.object "java/util/function/BiFunction"), (.object "java/util/function/BiFunction"), (.object "java/util/function/BiFunction")]
  resolved := Array.replicate 194 none
  statics := some 2 }

def pool15 : Array CpInfo := pool [(9, u "<init>"), (6, .class_ 18), (1, u "java/lang/Object"), (0, u "()V"), (1, .class_ 23), (1, u "jdk/internal/util/ArraysSupport"), (0, u "LOG2_ARRAY_LONG_INDEX_SCALE"), (0, u "I"), (2, u "U"), (0, u "Ljdk/internal/misc/Unsafe;"), (8, u "BIG_ENDIAN"), (0, u "Z"), (8, u "LOG2_BYTE_BIT_SIZE"), (4, u "LOG2_ARRAY_INT_INDEX_SCALE"), (54, u "JLA"), (0, u "Ljdk/internal/access/JavaLangAccess;"), (11, u "LOG2_ARRAY_BOOLEAN_INDEX_SCALE"), (9, u "LOG2_ARRAY_BYTE_INDEX_SCALE"), (5, u "LOG2_ARRAY_CHAR_INDEX_SCALE"), (5, u "LOG2_ARRAY_SHORT_INDEX_SCALE"), (18, u "LOG2_ARRAY_FLOAT_INDEX_SCALE"), (24, u "LOG2_ARRAY_DOUBLE_INDEX_SCALE"), (89, u "T_BOOLEAN"), (2, u "T_CHAR"), (1, u "T_FLOAT"), (1, u "T_DOUBLE"), (1, u "T_BYTE"), (1, u "T_SHORT"), (1, u "T_INT"), (1, u "T_LONG"), (1, u "SOFT_MAX_ARRAY_LENGTH")] 83

def k15m0 : Method := { name := "<init>", desc := "()V", sig := { parameters := [], returnType := none }, accessFlags := 2, code := none }
/-- jdk/internal/util/ArraysSupport -/
def k15 : Class := { plain "jdk/internal/util/ArraysSupport" (some 0) with
  accessFlags := 33
  interfaces := #[]
  cf := some (fileOf pool15 21 #[] #[{ accessFlags := 2, nameIndex := 9, descriptorIndex := 19, attributes := #[] }] 33 16 #[] #[{ accessFlags := 24, nameIndex := 28, descriptorIndex := 29, attributes := #[] }, { accessFlags := 26, nameIndex := 38, descriptorIndex := 39, attributes := #[] }, { accessFlags := 25, nameIndex := 121, descriptorIndex := 25, attributes := #[] }, { accessFlags := 25, nameIndex := 131, descriptorIndex := 25, attributes := #[] }, { accessFlags := 25, nameIndex := 137, descriptorIndex := 25, attributes := #[] }, { accessFlags := 25, nameIndex := 143, descriptorIndex := 25, attributes := #[] }, { accessFlags := 25, nameIndex := 53, descriptorIndex := 25, attributes := #[] }, { accessFlags := 25, nameIndex := 24, descriptorIndex := 25, attributes := #[] }, { accessFlags := 25, nameIndex := 162, descriptorIndex := 25, attributes := #[] }, { accessFlags := 25, nameIndex := 187, descriptorIndex := 25, attributes := #[] }, { accessFlags := 26, nameIndex := 48, descriptorIndex := 25, attributes := #[] }, { accessFlags := 25, nameIndex := 277, descriptorIndex := 25, attributes := #[] }, { accessFlags := 25, nameIndex := 280, descriptorIndex := 25, attributes := #[] }, { accessFlags := 25, nameIndex := 282, descriptorIndex := 25, attributes := #[] }, { accessFlags := 25, nameIndex := 284, descriptorIndex := 25, attributes := #[] }, { accessFlags := 25, nameIndex := 286, descriptorIndex := 25, attributes := #[] }, { accessFlags := 25, nameIndex := 288, descriptorIndex := 25, attributes := #[] }, { accessFlags := 25, nameIndex := 290, descriptorIndex := 25, attributes := #[] }, { accessFlags := 25, nameIndex := 292, descriptorIndex := 25, attributes := #[] }, { accessFlags := 26, nameIndex := 108, descriptorIndex := 109, attributes := #[] }, { accessFlags := 25, nameIndex := 294, descriptorIndex := 25, attributes := #[] }])
  fields := #[{ name := "U", type := (.object "jdk/internal/misc/Unsafe"), accessFlags := 24, slot := 0, constantValue := 0 }, { name := "BIG_ENDIAN", type := .boolean, accessFlags := 26, slot := 1, constantValue := 0 }, { name := "LOG2_ARRAY_BOOLEAN_INDEX_SCALE", type := .int, accessFlags := 25, slot := 2, constantValue := 0 }, { name := "LOG2_ARRAY_BYTE_INDEX_SCALE", type := .int, accessFlags := 25, slot := 3, constantValue := 0 }, { name := "LOG2_ARRAY_CHAR_INDEX_SCALE", type := .int, accessFlags := 25, slot := 4, constantValue := 0 }, { name := "LOG2_ARRAY_SHORT_INDEX_SCALE", type := .int, accessFlags := 25, slot := 5, constantValue := 0 }, { name := "LOG2_ARRAY_INT_INDEX_SCALE", type := .int, accessFlags := 25, slot := 6, constantValue := 0 }, { name := "LOG2_ARRAY_LONG_INDEX_SCALE", type := .int, accessFlags := 25, slot := 7, constantValue := 0 }, { name := "LOG2_ARRAY_FLOAT_INDEX_SCALE", type := .int, accessFlags := 25, slot := 8, constantValue := 0 }, { name := "LOG2_ARRAY_DOUBLE_INDEX_SCALE", type := .int, accessFlags := 25, slot := 9, constantValue := 0 }, { name := "LOG2_BYTE_BIT_SIZE", type := .int, accessFlags := 26, slot := 10, constantValue := 0 }, { name := "T_BOOLEAN", type := .int, accessFlags := 25, slot := 11, constantValue := 0 }, { name := "T_CHAR", type := .int, accessFlags := 25, slot := 12, constantValue := 0 }, { name := "T_FLOAT", type := .int, accessFlags := 25, slot := 13, constantValue := 0 }, { name := "T_DOUBLE", type := .int, accessFlags := 25, slot := 14, constantValue := 0 }, { name := "T_BYTE", type := .int, accessFlags := 25, slot := 15, constantValue := 0 }, { name := "T_SHORT", type := .int, accessFlags := 25, slot := 16, constantValue := 0 }, { name := "T_INT", type := .int, accessFlags := 25, slot := 17, constantValue := 0 }, { name := "T_LONG", type := .int, accessFlags := 25, slot := 18, constantValue := 0 }, { name := "JLA", type := (.object "jdk/internal/access/JavaLangAccess"), accessFlags := 26, slot := 19, constantValue := 0 }, { name := "SOFT_MAX_ARRAY_LENGTH", type := .int, accessFlags := 25, slot := 20, constantValue := 0 }]
  methods := #[k15m0]
  instanceTypes := #[]
  staticTypes := #[(.object "jdk/internal/misc/Unsafe"), .boolean, .int, .int, .int, .int, .int, .int, .int, .int, .int, .int, .int, .int, .int, .int, .int, .int, .int, (.object "jdk/internal/access/JavaLangAccess"), .int]
  resolved := Array.replicate 378 none
  statics := none }

def pool16 : Array CpInfo := pool [(1, u "java/lang/Cloneable"), (0, .class_ 1), (0, u "java/lang/Object"), (0, .class_ 3)] 3

/-- java/lang/Cloneable -/
def k16 : Class := { plain "java/lang/Cloneable" (some 0) with
  accessFlags := 1537
  interfaces := #[]
  cf := some (fileOf pool16 2 #[] #[] 1537 4 #[] #[])
  fields := #[]
  methods := #[]
  instanceTypes := #[]
  staticTypes := #[]
  resolved := Array.replicate 8 none
  statics := none }

/-- the primitive byte -/
def k17 : Class := { plain "byte" none with kind := .primitive 'B', accessFlags := 0x411 }
/-- [B -/
def k18 : Class := { plain "[B" (some 0) with kind := .array 17 .byte, interfaces := #[16, 2], accessFlags := 1041 }

/-- the primitive char -/
def k19 : Class := { plain "char" none with kind := .primitive 'C', accessFlags := 0x411 }
/-- [C -/
def k20 : Class := { plain "[C" (some 0) with kind := .array 19 .char, interfaces := #[16, 2], accessFlags := 1041 }

/-- the primitive int -/
def k21 : Class := { plain "int" none with kind := .primitive 'I', accessFlags := 0x411 }
/-- [I -/
def k22 : Class := { plain "[I" (some 0) with kind := .array 21 .int, interfaces := #[16, 2], accessFlags := 1041 }

def heap : Heap := #[{ cls := 7, slots := #[.long 0, .int 1, .null, .int 0, .null, .int 0, .int 0], vm := .statics 7 },
  { cls := 12, slots := #[.null, .null, .null, .null, .ref 3, .null], vm := .statics 12 },
  { cls := 14, slots := #[.null, .null, .null], vm := .statics 14 },
  { cls := 12, slots := #[.null, .int 3, .int 0], vm := .none }]
def classes : Array Class := #[k0, k1, k2, k3, k4, k5, k6, k7, k8, k9, k10, k11, k12, k13, k14, k15, k16, k17, k18, k19, k20, k21, k22]
def interned : List (Array UInt16 × Addr) := []
def slotsUsed : Nat := 19
def theMethod : MethodId := ⟨1, 1⟩
def args0 : Array Value := #[.int 5, .int 7, .int 6]
def aboutOver (below : List Frame) : State where
  vm := { classes := classes, interned := interned.toArray }
  heap := heap
  slotsUsed := slotsUsed
  threads := #[{ frames := .invoking theMethod args0 :: below }]
def below0 : List Frame := [.native { method := ⟨0, 0⟩, args := #[] }]
def about1 : State := aboutOver below0
def p0 : Program := .bare "" "" ""
def e0 : Env := launch0.env 0 0 0
theorem w_frames : about1.frames = Frame.invoking theMethod args0 :: below0 := rfl
set_option maxRecDepth 65536 in
theorem w_args : argsFit about1.vm theMethod args0 = true := by decide +kernel
set_option maxRecDepth 65536 in
theorem w_heap : heapFits about1 = true := by decide +kernel
set_option maxRecDepth 65536 in
theorem w_runnable : about1.curStatus? = some .runnable := by decide +kernel
set_option maxRecDepth 65536 in
theorem w_alone : about1.alone = true := by decide +kernel
set_option maxRecDepth 65536 in
theorem w_named : about1.methodNamed? x = some theMethod := by decide +kernel
set_option maxRecDepth 65536 in
theorem w_hears : about1.hears theMethod below0 = true := by decide +kernel
set_option maxRecDepth 65536 in
theorem w_ripe : about1.ripe theMethod args0 below0 = true := by decide +kernel
theorem w_running : about1.status = .running := rfl
set_option maxRecDepth 65536 in
theorem w_room : about1.hasRoom e0.platform room_1 = true :=
  launch0.hasRoom_least _ room_1 (by decide +kernel) (by decide +kernel) (by decide +kernel) (by decide +kernel) (by decide +kernel) (by decide +kernel)
theorem allAtoms_all (ts : List Jvm.Cond) (a : Array Jvm.Value) (st : Jvm.State) : (allAtoms ts).before a st = ts.all (fun c => c.before a st) := by
  induction ts with
  | nil => rfl
  | cons c t ih =>
    show (Jvm.Cond.and c (allAtoms t)).before a st = _
    rw [Jvm.Cond.before_and, ih, List.all_cons]
def words1 : List Jvm.Cond := Jvm.Cond.code x code maxLocals ret :: tables_1
/-- a 'code' word, met by the world's own term for the bytes: nothing is compared byte by byte -/
theorem code_word {y : MethodName} {bytes : ByteArray} {mx : Nat} {rt : Option FieldType} {a : Array Value} {s : State} {m : MethodId} {meth : Method} {c : Code} (h1 : s.methodNamed? y = some m) (h2 : s.vm.method? m = some meth) (h3 : meth.code = some c) (h4 : c.code = bytes)
    (h5 : (c.maxLocals == mx && c.exceptionTable.isEmpty && decide (c.maxStack ≤ mostOperands) && decide (meth.sig.returnType = rt) && !meth.locks && decide (parseMethodDescriptor y.desc = some meth.sig)) = true) : (Jvm.Cond.code y bytes mx rt).before a s = true := by
  simp only [Bool.and_eq_true, beq_iff_eq, Bool.not_eq_true', decide_eq_true_eq] at h5
  obtain ⟨⟨⟨⟨⟨g1, g2⟩, g3⟩, g4⟩, g5⟩, g6⟩ := h5
  simp [Cond.before, Cond.holds, Cond.value, h1, h2, h3, h4, g1, g2, g3, g4, g5, g6]
def isCode : Jvm.Cond → Bool
  | .code _ _ _ _ => true
  | _ => false
theorem all_split {L : List Jvm.Cond} {P : Jvm.Cond → Bool} (h1 : L.all (fun c => isCode c || P c) = true) (h2 : ∀ c ∈ L.filter isCode, P c = true) : L.all P = true := by
  refine List.all_eq_true.mpr fun c hc => ?_
  have h := List.all_eq_true.mp h1 c hc
  rcases Bool.eq_false_or_eq_true (isCode c) with hi | hi
  · exact h2 c (List.mem_filter.mpr ⟨hc, hi⟩)
  · simpa [hi] using h
set_option maxRecDepth 65536 in
theorem w_c0 : (Jvm.Cond.code x code maxLocals ret).before args0 about1 = true := code_word (m := ⟨1, 1⟩) (meth := k1m1) (c := k1c1) (by decide +kernel) rfl rfl rfl (by decide +kernel)
set_option maxRecDepth 65536 in
theorem w_c1 : (Jvm.Cond.code ({ cls := "java/lang/String", name := "<init>", desc := "([C)V" } : Jvm.MethodName) jdk_42_method_3_code (2 : Nat) (Option.none : Option Jvm.ClassFile.FieldType)).before args0 about1 = true := code_word (m := ⟨7, 1⟩) (meth := k7m1) (c := k7c1) (by decide +kernel) rfl rfl rfl (by decide +kernel)
set_option maxRecDepth 65536 in
theorem w_c2 : (Jvm.Cond.code ({ cls := "java/lang/String", name := "<init>", desc := "([CIILjava/lang/Void;)V" } : Jvm.MethodName) jdk_42_method_149_code (6 : Nat) (Option.none : Option Jvm.ClassFile.FieldType)).before args0 about1 = true := code_word (m := ⟨7, 2⟩) (meth := k7m2) (c := k7c2) (by decide +kernel) rfl rfl rfl (by decide +kernel)
set_option maxRecDepth 65536 in
theorem w_c3 : (Jvm.Cond.code ({ cls := "java/lang/Object", name := "<init>", desc := "()V" } : Jvm.MethodName) object_method_1_code (1 : Nat) (Option.none : Option Jvm.ClassFile.FieldType)).before args0 about1 = true := code_word (m := ⟨0, 0⟩) (meth := k0m0) (c := k0c0) (by decide +kernel) rfl rfl rfl (by decide +kernel)
set_option maxRecDepth 65536 in
theorem w_c4 : (Jvm.Cond.code ({ cls := "java/lang/StringUTF16", name := "compress", desc := "([CII)[B" } : Jvm.MethodName) jdk_52_method_16_code (6 : Nat) (Option.some (Jvm.ClassFile.FieldType.array Jvm.ClassFile.FieldType.byte))).before args0 about1 = true := code_word (m := ⟨8, 2⟩) (meth := k8m2) (c := k8c2) (by decide +kernel) rfl rfl rfl (by decide +kernel)
set_option maxRecDepth 65536 in
theorem w_c5 : (Jvm.Cond.code ({ cls := "java/lang/StringUTF16", name := "compress", desc := "([CI[BII)I" } : Jvm.MethodName) jdk_52_method_21_code (7 : Nat) (Option.some Jvm.ClassFile.FieldType.int)).before args0 about1 = true := code_word (m := ⟨8, 3⟩) (meth := k8m3) (c := k8c3) (by decide +kernel) rfl rfl rfl (by decide +kernel)
set_option maxRecDepth 65536 in
theorem w_c6 : (Jvm.Cond.code ({ cls := "java/lang/StringUTF16", name := "coderFromArrayLen", desc := "([BI)B" } : Jvm.MethodName) jdk_52_method_15_code (2 : Nat) (Option.some Jvm.ClassFile.FieldType.byte)).before args0 about1 = true := code_word (m := ⟨8, 1⟩) (meth := k8m1) (c := k8c1) (by decide +kernel) rfl rfl rfl (by decide +kernel)
set_option maxRecDepth 65536 in
theorem w_c7 : (Jvm.Cond.code ({ cls := "com/example/earnest_roster/earnestroster/ApiError", name := "<init>", desc := "(Ljava/lang/String;Ljava/lang/String;)V" } : Jvm.MethodName) prog_1_method_1_code (3 : Nat) (Option.none : Option Jvm.ClassFile.FieldType)).before args0 about1 = true := code_word (m := ⟨9, 0⟩) (meth := k9m0) (c := k9c0) (by decide +kernel) rfl rfl rfl (by decide +kernel)
set_option maxRecDepth 65536 in
theorem w_c8 : (Jvm.Cond.code ({ cls := "com/example/earnest_roster/earnestroster/MergeResult", name := "rejected", desc := "(Lcom/example/earnest_roster/earnestroster/ApiError;)Lcom/example/earnest_roster/earnestroster/MergeResult;" } : Jvm.MethodName) prog_12_method_4_code (1 : Nat) (Option.some (Jvm.ClassFile.FieldType.object "com/example/earnest_roster/earnestroster/MergeResult"))).before args0 about1 = true := code_word (m := ⟨10, 1⟩) (meth := k10m1) (c := k10c1) (by decide +kernel) rfl rfl rfl (by decide +kernel)
set_option maxRecDepth 65536 in
theorem w_c9 : (Jvm.Cond.code ({ cls := "com/example/earnest_roster/earnestroster/MergeResult", name := "<init>", desc := "(Lcom/example/earnest_roster/earnestroster/MergeResult$Status;Ljava/lang/String;Lcom/example/earnest_roster/earnestroster/ApiError;)V" } : Jvm.MethodName) prog_12_method_1_code (4 : Nat) (Option.none : Option Jvm.ClassFile.FieldType)).before args0 about1 = true := code_word (m := ⟨10, 0⟩) (meth := k10m0) (c := k10c0) (by decide +kernel) rfl rfl rfl (by decide +kernel)
set_option maxRecDepth 65536 in
theorem w_c10 : (Jvm.Cond.code ({ cls := "com/example/earnest_roster/earnestroster/MergeResult", name := "getStatus", desc := "()Lcom/example/earnest_roster/earnestroster/MergeResult$Status;" } : Jvm.MethodName) prog_12_method_5_code (1 : Nat) (Option.some (Jvm.ClassFile.FieldType.object "com/example/earnest_roster/earnestroster/MergeResult$Status"))).before args0 about1 = true := code_word (m := ⟨10, 2⟩) (meth := k10m2) (c := k10c2) (by decide +kernel) rfl rfl rfl (by decide +kernel)
set_option maxRecDepth 65536 in
theorem w_c11 : (Jvm.Cond.code ({ cls := "com/example/earnest_roster/earnestroster/MergeResult", name := "getId", desc := "()Ljava/lang/String;" } : Jvm.MethodName) prog_12_method_6_code (1 : Nat) (Option.some (Jvm.ClassFile.FieldType.object "java/lang/String"))).before args0 about1 = true := code_word (m := ⟨10, 3⟩) (meth := k10m3) (c := k10c3) (by decide +kernel) rfl rfl rfl (by decide +kernel)
set_option maxRecDepth 65536 in
theorem w_c12 : (Jvm.Cond.code ({ cls := "com/example/earnest_roster/earnestroster/MergeResult", name := "getError", desc := "()Lcom/example/earnest_roster/earnestroster/ApiError;" } : Jvm.MethodName) prog_12_method_7_code (1 : Nat) (Option.some (Jvm.ClassFile.FieldType.object "com/example/earnest_roster/earnestroster/ApiError"))).before args0 about1 = true := code_word (m := ⟨10, 4⟩) (meth := k10m4) (c := k10c4) (by decide +kernel) rfl rfl rfl (by decide +kernel)
def codes1 : List Jvm.Cond := [Jvm.Cond.code x code maxLocals ret, Jvm.Cond.code ({ cls := "java/lang/String", name := "<init>", desc := "([C)V" } : Jvm.MethodName) jdk_42_method_3_code (2 : Nat) (Option.none : Option Jvm.ClassFile.FieldType), Jvm.Cond.code ({ cls := "java/lang/String", name := "<init>", desc := "([CIILjava/lang/Void;)V" } : Jvm.MethodName) jdk_42_method_149_code (6 : Nat) (Option.none : Option Jvm.ClassFile.FieldType), Jvm.Cond.code ({ cls := "java/lang/Object", name := "<init>", desc := "()V" } : Jvm.MethodName) object_method_1_code (1 : Nat) (Option.none : Option Jvm.ClassFile.FieldType), Jvm.Cond.code ({ cls := "java/lang/StringUTF16", name := "compress", desc := "([CII)[B" } : Jvm.MethodName) jdk_52_method_16_code (6 : Nat) (Option.some (Jvm.ClassFile.FieldType.array Jvm.ClassFile.FieldType.byte)), Jvm.Cond.code ({ cls := "java/lang/StringUTF16", name := "compress", desc := "([CI[BII)I" } : Jvm.MethodName) jdk_52_method_21_code (7 : Nat) (Option.some Jvm.ClassFile.FieldType.int), Jvm.Cond.code ({ cls := "java/lang/StringUTF16", name := "coderFromArrayLen", desc := "([BI)B" } : Jvm.MethodName) jdk_52_method_15_code (2 : Nat) (Option.some Jvm.ClassFile.FieldType.byte), Jvm.Cond.code ({ cls := "com/example/earnest_roster/earnestroster/ApiError", name := "<init>", desc := "(Ljava/lang/String;Ljava/lang/String;)V" } : Jvm.MethodName) prog_1_method_1_code (3 : Nat) (Option.none : Option Jvm.ClassFile.FieldType), Jvm.Cond.code ({ cls := "com/example/earnest_roster/earnestroster/MergeResult", name := "rejected", desc := "(Lcom/example/earnest_roster/earnestroster/ApiError;)Lcom/example/earnest_roster/earnestroster/MergeResult;" } : Jvm.MethodName) prog_12_method_4_code (1 : Nat) (Option.some (Jvm.ClassFile.FieldType.object "com/example/earnest_roster/earnestroster/MergeResult")), Jvm.Cond.code ({ cls := "com/example/earnest_roster/earnestroster/MergeResult", name := "<init>", desc := "(Lcom/example/earnest_roster/earnestroster/MergeResult$Status;Ljava/lang/String;Lcom/example/earnest_roster/earnestroster/ApiError;)V" } : Jvm.MethodName) prog_12_method_1_code (4 : Nat) (Option.none : Option Jvm.ClassFile.FieldType), Jvm.Cond.code ({ cls := "com/example/earnest_roster/earnestroster/MergeResult", name := "getStatus", desc := "()Lcom/example/earnest_roster/earnestroster/MergeResult$Status;" } : Jvm.MethodName) prog_12_method_5_code (1 : Nat) (Option.some (Jvm.ClassFile.FieldType.object "com/example/earnest_roster/earnestroster/MergeResult$Status")), Jvm.Cond.code ({ cls := "com/example/earnest_roster/earnestroster/MergeResult", name := "getId", desc := "()Ljava/lang/String;" } : Jvm.MethodName) prog_12_method_6_code (1 : Nat) (Option.some (Jvm.ClassFile.FieldType.object "java/lang/String")), Jvm.Cond.code ({ cls := "com/example/earnest_roster/earnestroster/MergeResult", name := "getError", desc := "()Lcom/example/earnest_roster/earnestroster/ApiError;" } : Jvm.MethodName) prog_12_method_7_code (1 : Nat) (Option.some (Jvm.ClassFile.FieldType.object "com/example/earnest_roster/earnestroster/ApiError"))]
set_option maxRecDepth 65536 in
theorem codes_eq : words1.filter isCode = codes1 := rfl
theorem w_codes : ∀ c ∈ words1.filter isCode, c.before args0 about1 = true := by
  rw [codes_eq]
  intro c hc
  simp only [codes1, List.mem_cons, List.not_mem_nil, or_false] at hc
  rcases hc with rfl | rfl | rfl | rfl | rfl | rfl | rfl | rfl | rfl | rfl | rfl | rfl | rfl
  · exact w_c0
  · exact w_c1
  · exact w_c2
  · exact w_c3
  · exact w_c4
  · exact w_c5
  · exact w_c6
  · exact w_c7
  · exact w_c8
  · exact w_c9
  · exact w_c10
  · exact w_c11
  · exact w_c12
set_option maxRecDepth 65536 in
theorem w_t1 : (words1.take 24).all (fun c => isCode c || c.before args0 about1) = true := by decide +kernel
set_option maxRecDepth 65536 in
theorem w_t2 : ((words1.drop 24).take 24).all (fun c => isCode c || c.before args0 about1) = true := by decide +kernel
set_option maxRecDepth 65536 in
theorem w_t3 : (((words1.drop 24).drop 24).take 24).all (fun c => isCode c || c.before args0 about1) = true := by decide +kernel
set_option maxRecDepth 65536 in
theorem w_t4 : (((words1.drop 24).drop 24).drop 24).all (fun c => isCode c || c.before args0 about1) = true := by decide +kernel
theorem w_tables : (allAtoms (Jvm.Cond.code x code maxLocals ret :: tables_1)).before args0 about1 = true := by
  rw [allAtoms_all]
  show words1.all (fun c => c.before args0 about1) = true
  refine all_split ?_ w_codes
  rw [← List.take_append_drop 24 words1, List.all_append, w_t1, ← List.take_append_drop 24 (words1.drop 24), List.all_append, w_t2, ← List.take_append_drop 24 ((words1.drop 24).drop 24), List.all_append, w_t3, w_t4]
  rfl
set_option maxRecDepth 65536 in
theorem w_rest : rest_1_c.before args0 about1 = true := by decide +kernel
set_option maxRecDepth 65536 in
theorem w_case : (Jvm.Cond.and given_1 narrow_1).before args0 about1 = true := by decide +kernel
theorem w_applies : (headSpec (Jvm.Cond.code x code maxLocals ret :: tables_1) room_1).applies x e0.platform about1 = true :=
  (Spec.applies_iff w_frames).mpr ⟨w_running, w_runnable, w_alone, w_named, w_hears, w_ripe, w_room, w_tables⟩
theorem atStart : AtStart classFile x code maxLocals ret World_1 tables_1 room_1 Calls_1 rest_1 Pre_1 launch0 p0 e0 about1 theMethod args0 below0 :=
  ⟨lists_1, trivial, launch0.admits_env _ _ _, launch0.least_env, fairChoices_fair.cas, fairChoices_fair.clock, w_frames, w_args, w_heap, w_applies, trivial, w_rest, w_case⟩
end start1
theorem witness_1 : WitnessClaimed_1 := ⟨start1.p0, start1.e0, start1.about1, start1.theMethod, start1.args0, start1.below0, start1.atStart⟩
end Jvm.Pilot.@@N@@
