import JvmDerived
import JvmDerived.Pilot.@@N@@Statement
import JvmDerived.Pilot.@@N@@Code
set_option linter.unusedVariables false
set_option linter.unusedSimpArgs false
namespace Jvm.RoadKit
open Sem ClassFile Op Lib Jvm.Stand Jvm.Free Jvm.LawKit
section New
variable {p : Program} {l : Launch} {e : Env} {R : Room} {s : State} {m : MethodId} {args : Array Value} {below : List Frame} {meth : Method} {c : Code} {T : State} {locs : List Loc} {cells slots : Nat}
theorem retI (X : Stand p l e R s m args below meth c T locs cells slots) (hx : p.tables.exec = Jvm.exec) {pc : Nat} {Ls : Array Slot} {z : Int32} {rest : List Value} (hret : meth.sig.returnType = some .int) (hd : decode c.code pc = .ok (.ireturn, 1)) {fs : List Frame}
    (hl : ∀ (f : JFrame) (acts : List Action), f.method = m → f.locked = none → f.entered = [] → (doReturn e (T.setTop f) acts (some (.int z))).1 = T.setFrames fs) : Steps p.tables e below (T.setTop (mkF m pc Ls (.int z :: rest))) (T.setFrames fs) := by
  have hm' : T.vm.method? m = some meth := X.method'
  have hn : narrow .int (.int z) = .int z := rfl
  show Steps p.tables e below (T.setTop { method := m, pc := pc, locals := Ls, stack := _ :: rest, locked := none }) _
  jvm_step X.here [X.here.top, hx, hd, hm', hret, hn]
  first | (intro acts; rw [hl _ acts rfl rfl rfl]) | rw [hl _ _ rfl rfl rfl]
  exact Steps.refl _
end New
end Jvm.RoadKit
/- laws to paste: Road.backV (cut by pick.py; bodies as the Statement names them) -/
namespace Jvm.Pilot.@@N@@
namespace StrChars
open Jvm Sem ClassFile Op Lib Jvm.Stand Jvm.Free.XT Jvm.Free.ALB Jvm.Free.JM Jvm.Free
open Jvm.Lib.Cold (StaticIs)
/-- a char array whose places are chars -/
def Ch (a : Addr) (A : Cell) (U : State) : Prop := Arr .char a A U ∧ Typed .char A
theorem Ch.mv {a : Addr} {A : Cell} {U U' : State} (h : Ch a A U) (hal : U.vm.Alike U'.vm) (hh : U'.heap = U.heap) : Ch a A U' := ⟨h.1.mv hal hh, h.2⟩
theorem Ch.keep {a : Addr} {A : Cell} {U U' : State} (h : Ch a A U) (hal : U.vm.Alike U'.vm) (hk : U'.heap[a]? = some A) : Ch a A U' := ⟨h.1.keep hal hk, h.2⟩
/-- what place i of a char[]'s cell holds -/
def cv (A : Cell) (i : Nat) : Int32 := match A.slots[i]? with | some (.int x) => x | _ => 0
theorem Ch.get {a : Addr} {A : Cell} {U : State} (h : Ch a A U) {i : Nat} (hi : i < A.slots.size) : A.slots[i]? = some (.int (cv A i)) := by
  have e := Array.getElem?_eq_getElem hi
  have f := h.2 i _ e
  unfold cv; rw [e]
  generalize A.slots[i] = v at f
  cases v <;> simp [fits] at f ⊢
/-- the byte that i2b leaves of a char -/
def lo8 (x : Int32) : Int32 := x.toInt8.toInt32
theorem fits_lo8 (y : Int32) : fits .byte (.int (lo8 y)) = true := by
  have h1 := y.toInt8.le_toInt
  have h2 := y.toInt8.toInt_lt
  simp only [lo8, fits, Bool.and_eq_true, decide_eq_true_eq, Int32.le_iff_toInt_le, Int8.toInt_toInt32, show (-128 : Int32).toInt = -128 from by decide, show (127 : Int32).toInt = 127 from by decide]
  omega
/-- A' is A but that each place j of lo .. hi - 1 holds f j -/
def Laid (A A' : Cell) (lo hi : Nat) (f : Nat → Value) : Prop := A'.cls = A.cls ∧ A'.vm = A.vm ∧ A'.slots.size = A.slots.size ∧ ∀ i, A'.slots[i]? = if lo ≤ i ∧ i < hi then some (f i) else A.slots[i]?
theorem Laid.zero (A : Cell) (lo : Nat) (f : Nat → Value) : Laid A A lo (lo + 0) f := ⟨rfl, rfl, rfl, fun i => by rw [if_neg (by omega)]⟩
theorem Laid.step {A Ak : Cell} {lo k : Nat} {f : Nat → Value} {v : Value} (h : Laid A Ak lo k f) (hlo : lo ≤ k) (hk : k < Ak.slots.size) (hv : v = f k) : Laid A (Ak.setSlot k v) lo (k + 1) f := by
  refine ⟨h.1, h.2.1, by simpa [Cell.setSlot] using h.2.2.1, fun i => ?_⟩
  by_cases e : k = i
  · subst e; rw [Cell.slots_setSlot_self v hk, if_pos (by omega), hv]
  · rw [Cell.slots_setSlot_ne v e, h.2.2.2 i]
    by_cases q : lo ≤ i ∧ i < k
    · rw [if_pos q, if_pos (by omega)]
    · rw [if_neg q, if_neg (by omega)]
def U16 : String := "java/lang/StringUTF16"
namespace Cmp5
def yN : MethodName := ⟨"java/lang/StringUTF16", "compress", "([CI[BII)I"⟩
abbrev yB : ByteArray := jdk_52_method_21_code
theorem d0 : decode yB 0 = .ok (.iconst 0, 1) := by decide +kernel
theorem d1 : decode yB 1 = .ok (.istore 5, 2) := by decide +kernel
theorem d3 : decode yB 3 = .ok (.iload 5, 2) := by decide +kernel
theorem d5 : decode yB 5 = .ok (.iload 4, 2) := by decide +kernel
theorem d7 : decode yB 7 = .ok (.if_icmp (.ge) 37, 3) := by decide +kernel
theorem d10 : decode yB 10 = .ok (.aload_n 0, 1) := by decide +kernel
theorem d11 : decode yB 11 = .ok (.iload_n 1, 1) := by decide +kernel
theorem d12 : decode yB 12 = .ok (.caload, 1) := by decide +kernel
theorem d13 : decode yB 13 = .ok (.istore 6, 2) := by decide +kernel
theorem d15 : decode yB 15 = .ok (.iload 6, 2) := by decide +kernel
theorem d17 : decode yB 17 = .ok (.sipush 255, 3) := by decide +kernel
theorem d20 : decode yB 20 = .ok (.if_icmp (.le) 6, 3) := by decide +kernel
theorem d26 : decode yB 26 = .ok (.aload_n 2, 1) := by decide +kernel
theorem d27 : decode yB 27 = .ok (.iload_n 3, 1) := by decide +kernel
theorem d28 : decode yB 28 = .ok (.iload 6, 2) := by decide +kernel
theorem d30 : decode yB 30 = .ok (.i2b, 1) := by decide +kernel
theorem d31 : decode yB 31 = .ok (.bastore, 1) := by decide +kernel
theorem d32 : decode yB 32 = .ok (.iinc 1 1, 3) := by decide +kernel
theorem d35 : decode yB 35 = .ok (.iinc 3 1, 3) := by decide +kernel
theorem d38 : decode yB 38 = .ok (.iinc 5 1, 3) := by decide +kernel
theorem d41 : decode yB 41 = .ok (.goto (-38), 3) := by decide +kernel
theorem d44 : decode yB 44 = .ok (.iload 4, 2) := by decide +kernel
theorem d46 : decode yB 46 = .ok (.ireturn, 1) := by decide +kernel
def site : List Cond := []
def tab : Cond := tabOf yN yB 7 (some .int) site
def P (b : Addr) (A : Cell) (d : Addr) (B : Cell) (o q len : Nat) (args : Array Value) (s : State) : Prop := args = #[.ref b, .int (Int32.ofNat o), .ref d, .int (Int32.ofNat q), .int (Int32.ofNat len)] ∧ Ch b A s ∧ Arr .byte d B s ∧ b ≠ d ∧ o + len ≤ A.slots.size ∧ q + len ≤ B.slots.size ∧ ∀ i, i < len → ¬ 255 < cv A (o + i)
def E (b : Addr) (A : Cell) (d : Addr) (B : Cell) (o q len : Nat) (r : Option Value) (s u : State) : Prop := r = some (.int (Int32.ofNat len)) ∧ ∃ B', Put d B' s u ∧ Laid B B' q (q + len) (fun j => Value.int (lo8 (cv A (o + (j - q)))))
/-- no char of the range above 255: len; the places written hold each char's low byte -/
theorem law (l : Launch) (b : Addr) (A : Cell) (d : Addr) (B : Cell) (o q len : Nat) : Law l yN 5 5 0 0 yB 7 (some .int) site (P b A d B o q len) (E b A d B o q len) (copyLocs d q len) 0 0 := by
  refine Law.of_walk (plainFor_of_name (by decide +kernel)) (by decide +kernel) (by decide +kernel) (by decide) (fun _ _ h => by rw [h.1]; rfl) (fun _ U U' hal hh h => ⟨h.1, h.2.1.mv hal hh, h.2.2.1.mv hal hh, h.2.2.2⟩) (fun r U U' V V' h1 hal h2 h => ⟨h.1, h.2.elim fun B' q => ⟨B', q.1.mv h1 h2, q.2⟩⟩) ?_
  intro p e s m args below meth c s₁ X0 hexec hbytes hml hret hlk hnm hown hh0 W hP
  obtain ⟨rfl, hA, hB, hne, l1, l2, hp⟩ := hP
  have c1 : Steps p.tables e below (s₁.setTop (entryFrame m #[.ref b, .int (Int32.ofNat o), .ref d, .int (Int32.ofNat q), .int (Int32.ofNat len)] 7)) (s₁.setTop (mkF m 0 #[.val (.ref b), .val (.int (Int32.ofNat o)), .val (.ref d), .val (.int (Int32.ofNat q)), .val (.int (Int32.ofNat len)), .unset, .unset] [])) := entry rfl
  have hA0 := hA.1.mv X0.warmed.alike hh0
  have hB0 := hB.mv X0.warmed.alike hh0
  have a31 := hA.1.2.2.2
  have c2 : Steps p.tables e below (s₁.setTop (entryFrame m #[.ref b, .int (Int32.ofNat o), .ref d, .int (Int32.ofNat q), .int (Int32.ofNat len)] 7)) (s₁.setTop (mkF m 3 #[.val (.ref b), .val (.int (Int32.ofNat o)), .val (.ref d), .val (.int (Int32.ofNat q)), .val (.int (Int32.ofNat len)), .val (.int 0), .unset] [])) := c1.trans (by
    refine iconstV X0.here hexec rfl 0 (hb hbytes d0) (by decide) ?_
    refine XS.istore X0.here hexec rfl (hb hbytes d1) rfl rfl ?_
    exact Steps.refl _)
  have loop : ∀ (r i : Nat), i + r = len → ∀ (z : Slot), (z = .unset ∨ ∃ w, z = .val w ∧ w.category = 1) → ∀ (Tl : State) (Bk : Cell), Stand p l e { frames := 0, locals := 0, cells := 0, slots := 0 } s m #[.ref b, .int (Int32.ofNat o), .ref d, .int (Int32.ofNat q), .int (Int32.ofNat len)] below meth c Tl ([] ++ copyLocs d q i) 0 0 → Put d Bk s₁ Tl → Laid B Bk q (q + i) (fun j => Value.int (lo8 (cv A (o + (j - q))))) →
      Steps p.tables e below (s₁.setTop (entryFrame m #[.ref b, .int (Int32.ofNat o), .ref d, .int (Int32.ofNat q), .int (Int32.ofNat len)] 7)) (Tl.setTop (mkF m 3 #[.val (.ref b), .val (.int (Int32.ofNat (o + i))), .val (.ref d), .val (.int (Int32.ofNat (q + i))), .val (.int (Int32.ofNat len)), .val (.int (Int32.ofNat i)), z] [])) → ∃ (T' : State) (B' : Cell) (z' : Slot), Stand p l e { frames := 0, locals := 0, cells := 0, slots := 0 } s m #[.ref b, .int (Int32.ofNat o), .ref d, .int (Int32.ofNat q), .int (Int32.ofNat len)] below meth c T' ([] ++ copyLocs d q len) 0 0 ∧ Put d B' s₁ T' ∧ Laid B B' q (q + len) (fun j => Value.int (lo8 (cv A (o + (j - q))))) ∧
      Steps p.tables e below (s₁.setTop (entryFrame m #[.ref b, .int (Int32.ofNat o), .ref d, .int (Int32.ofNat q), .int (Int32.ofNat len)] 7)) (T'.setTop (mkF m 3 #[.val (.ref b), .val (.int (Int32.ofNat (o + len))), .val (.ref d), .val (.int (Int32.ofNat (q + len))), .val (.int (Int32.ofNat len)), .val (.int (Int32.ofNat len)), z'] [])) := by
    intro r
    induction r with
    | zero =>
      intro i hi z hz Tl Bk Xl pl fl cl
      have hil : i = len := by omega
      rw [hil] at Xl fl cl
      exact ⟨Tl, Bk, z, Xl, pl, fl, cl⟩
    | succ r ih =>
      intro i hi z hz Tl Bk Xl pl fl cl
      have all := X0.warmed.alike.symm.trans Xl.warmed.alike
      have hAl := hA0.keep all (pl.other hne hA0.1)
      have hBk := hB0.like all pl.1 fl.1 fl.2.1 fl.2.2.1
      have hlt : q + i < Bk.slots.size := by rw [fl.2.2.1]; omega
      have c3 : Steps p.tables e below (s₁.setTop (entryFrame m #[.ref b, .int (Int32.ofNat o), .ref d, .int (Int32.ofNat q), .int (Int32.ofNat len)] 7)) (Tl.setTop (mkF m 12 #[.val (.ref b), .val (.int (Int32.ofNat (o + i))), .val (.ref d), .val (.int (Int32.ofNat (q + i))), .val (.int (Int32.ofNat len)), .val (.int (Int32.ofNat i)), z] [.int (Int32.ofNat (o + i)), .ref b])) := cl.trans (by
        refine XS.iload Xl.here hexec rfl (hb hbytes d3) rfl ?_
        refine XS.iload Xl.here hexec rfl (hb hbytes d5) rfl ?_
        refine XS.icmpNo Xl.here hexec rfl (hb hbytes d7) rfl (ii_ge_f (lt32 (by omega) (by omega))) ?_
        refine XS.aloadN Xl.here hexec rfl (hb hbytes d10) rfl rfl ?_
        refine XS.iloadN Xl.here hexec rfl (hb hbytes d11) rfl ?_
        exact Steps.refl _)
      have c4 : Steps p.tables e below (s₁.setTop (entryFrame m #[.ref b, .int (Int32.ofNat o), .ref d, .int (Int32.ofNat q), .int (Int32.ofNat len)] 7)) (Tl.setTop (mkF m 13 #[.val (.ref b), .val (.int (Int32.ofNat (o + i))), .val (.ref d), .val (.int (Int32.ofNat (q + i))), .val (.int (Int32.ofNat len)), .val (.int (Int32.ofNat i)), z] [.int (cv A (o + i))])) := c3.trans (by
        refine Xl.aget hexec hAl rfl (hA.get (i := o + i) (by omega)) rfl rfl (hb hbytes d12) ?_
        exact Steps.refl _)
      have c5 : Steps p.tables e below (s₁.setTop (entryFrame m #[.ref b, .int (Int32.ofNat o), .ref d, .int (Int32.ofNat q), .int (Int32.ofNat len)] 7)) (Tl.setTop (mkF m 15 #[.val (.ref b), .val (.int (Int32.ofNat (o + i))), .val (.ref d), .val (.int (Int32.ofNat (q + i))), .val (.int (Int32.ofNat len)), .val (.int (Int32.ofNat i)), .val (.int (cv A (o + i)))] [])) := c4.trans (by
        refine XS.istoreS Xl.here hexec rfl (hb hbytes d13) rfl rfl hz ?_
        exact Steps.refl _)
      have c6 : Steps p.tables e below (s₁.setTop (entryFrame m #[.ref b, .int (Int32.ofNat o), .ref d, .int (Int32.ofNat q), .int (Int32.ofNat len)] 7)) (Tl.setTop (mkF m 31 #[.val (.ref b), .val (.int (Int32.ofNat (o + i))), .val (.ref d), .val (.int (Int32.ofNat (q + i))), .val (.int (Int32.ofNat len)), .val (.int (Int32.ofNat i)), .val (.int (cv A (o + i)))] [.int (lo8 (cv A (o + i))), .int (Int32.ofNat (q + i)), .ref d])) := c5.trans (by
        refine XS.iload Xl.here hexec rfl (hb hbytes d15) rfl ?_
        refine sipushV Xl.here hexec rfl 255 (hb hbytes d17) (by decide) ?_
        refine XS.icmpYes Xl.here hexec rfl (pc0 := 20) rfl (hb hbytes d20) rfl (ii_le_t (hp i (by omega))) (by decide) rfl ?_
        refine XS.aloadN Xl.here hexec rfl (hb hbytes d26) rfl rfl ?_
        refine XS.iloadN Xl.here hexec rfl (hb hbytes d27) rfl ?_
        refine XS.iload Xl.here hexec rfl (hb hbytes d28) rfl ?_
        refine i2b Xl.here hexec rfl (hb hbytes d30) rfl ?_
        exact Steps.refl _)
      obtain ⟨T7, X7, p7, st7⟩ := Xl.aput hexec hBk rfl hlt rfl (fits_lo8 (cv A (o + i))) (g := (mkF m 31 #[.val (.ref b), .val (.int (Int32.ofNat (o + i))), .val (.ref d), .val (.int (Int32.ofNat (q + i))), .val (.int (Int32.ofNat len)), .val (.int (Int32.ofNat i)), .val (.int (cv A (o + i)))] [.int (lo8 (cv A (o + i))), .int (Int32.ofNat (q + i)), .ref d])) rfl (rest := []) rfl (hb hbytes d31)
      have c8 : Steps p.tables e below (s₁.setTop (entryFrame m #[.ref b, .int (Int32.ofNat o), .ref d, .int (Int32.ofNat q), .int (Int32.ofNat len)] 7)) (T7.setTop (mkF m 32 #[.val (.ref b), .val (.int (Int32.ofNat (o + i))), .val (.ref d), .val (.int (Int32.ofNat (q + i))), .val (.int (Int32.ofNat len)), .val (.int (Int32.ofNat i)), .val (.int (cv A (o + i)))] [])) := c6.trans (st7 _ (Steps.refl _))
      have c9 : Steps p.tables e below (s₁.setTop (entryFrame m #[.ref b, .int (Int32.ofNat o), .ref d, .int (Int32.ofNat q), .int (Int32.ofNat len)] 7)) (T7.setTop (mkF m 3 #[.val (.ref b), .val (.int (Int32.ofNat (o + i) + 1)), .val (.ref d), .val (.int (Int32.ofNat (q + i) + 1)), .val (.int (Int32.ofNat len)), .val (.int (Int32.ofNat i + 1)), .val (.int (cv A (o + i)))] [])) := c8.trans (by
        refine iincV X7.here hexec rfl 1 (hb hbytes d32) (by decide) rfl rfl ?_
        refine iincV X7.here hexec rfl 1 (hb hbytes d35) (by decide) rfl rfl ?_
        refine iincV X7.here hexec rfl 1 (hb hbytes d38) (by decide) rfl rfl ?_
        refine XS.goto X7.here hexec rfl (pc0 := 41) rfl (hb hbytes d41) (by decide) rfl ?_
        exact Steps.refl _)
      have c10 : Steps p.tables e below (s₁.setTop (entryFrame m #[.ref b, .int (Int32.ofNat o), .ref d, .int (Int32.ofNat q), .int (Int32.ofNat len)] 7)) (T7.setTop (mkF m 3 #[.val (.ref b), .val (.int (Int32.ofNat (o + (i + 1)))), .val (.ref d), .val (.int (Int32.ofNat (q + (i + 1)))), .val (.int (Int32.ofNat len)), .val (.int (Int32.ofNat (i + 1))), .val (.int (cv A (o + i)))] [])) := by
        have := c9
        rw [succ32, succ32, succ32] at this
        exact this
      exact ih (i + 1) (by omega) _ (Or.inr ⟨_, rfl, rfl⟩) T7 _ (by rw [copyLocs_step, ← List.append_assoc]; exact X7) (pl.trans p7) (fl.step (by omega) hlt (by simp)) c10
  obtain ⟨T9, B9, z9, X9, p9, f9, g9⟩ := loop len 0 (by omega) .unset (Or.inl rfl) s₁ B (by simpa [copyLocs] using X0) ⟨hB0.1, fun _ _ => rfl, rfl⟩ (Laid.zero _ _ _) c2
  have c11 : Steps p.tables e below (s₁.setTop (entryFrame m #[.ref b, .int (Int32.ofNat o), .ref d, .int (Int32.ofNat q), .int (Int32.ofNat len)] 7)) (T9.setTop (mkF m 46 #[.val (.ref b), .val (.int (Int32.ofNat (o + len))), .val (.ref d), .val (.int (Int32.ofNat (q + len))), .val (.int (Int32.ofNat len)), .val (.int (Int32.ofNat len)), z9] [.int (Int32.ofNat len)])) := g9.trans (by
    refine XS.iload X9.here hexec rfl (hb hbytes d3) rfl ?_
    refine XS.iload X9.here hexec rfl (hb hbytes d5) rfl ?_
    refine XS.icmpYes X9.here hexec rfl (pc0 := 7) rfl (hb hbytes d7) rfl (ii_ge_t (nlt32 (by omega) (Nat.le_refl _))) (by decide) rfl ?_
    refine XS.iload X9.here hexec rfl (hb hbytes d44) rfl ?_
    exact Steps.refl _)
  exact ⟨T9, some (.int (Int32.ofNat len)), _, _, _, X9, by simp, rfl, rfl, (fun h => by cases h), ⟨rfl, B9, p9.from hh0, f9⟩, fun fs hl => c11.trans (X9.ireturnOut hexec hret rfl (Or.inl rfl) (hb hbytes d46) hl)⟩
end Cmp5
namespace Cmp3
def yN : MethodName := ⟨"java/lang/StringUTF16", "compress", "([CII)[B"⟩
abbrev yB : ByteArray := jdk_52_method_16_code
theorem d0 : decode yB 0 = .ok (.iload_n 2, 1) := by decide +kernel
theorem d1 : decode yB 1 = .ok (.newarray .byte, 2) := by decide +kernel
theorem d3 : decode yB 3 = .ok (.astore_n 3, 1) := by decide +kernel
theorem d4 : decode yB 4 = .ok (.aload_n 0, 1) := by decide +kernel
theorem d5 : decode yB 5 = .ok (.iload_n 1, 1) := by decide +kernel
theorem d6 : decode yB 6 = .ok (.aload_n 3, 1) := by decide +kernel
theorem d7 : decode yB 7 = .ok (.iconst 0, 1) := by decide +kernel
theorem d8 : decode yB 8 = .ok (.iload_n 2, 1) := by decide +kernel
theorem d9 : decode yB 9 = .ok (.invokestatic 115, 3) := by decide +kernel
theorem d12 : decode yB 12 = .ok (.istore 4, 2) := by decide +kernel
theorem d14 : decode yB 14 = .ok (.iload 4, 2) := by decide +kernel
theorem d16 : decode yB 16 = .ok (.iload_n 2, 1) := by decide +kernel
theorem d17 : decode yB 17 = .ok (.if_icmp (.eq) 40, 3) := by decide +kernel
theorem d57 : decode yB 57 = .ok (.aload_n 3, 1) := by decide +kernel
theorem d58 : decode yB 58 = .ok (.areturn, 1) := by decide +kernel
def site : List Cond := [.arrayClass .byte, Cmp5.tab] ++ staticW U16 115 Cmp5.yN
def tab : Cond := tabOf yN yB 6 (some (.array .byte)) site
def P (b : Addr) (A : Cell) (o len : Nat) (args : Array Value) (s : State) : Prop := args = #[.ref b, .int (Int32.ofNat o), .int (Int32.ofNat len)] ∧ Ch b A s ∧ o + len ≤ A.slots.size ∧ len ≤ 536870912 ∧ ∀ i, i < len → ¬ 255 < cv A (o + i)
def E (b : Addr) (A : Cell) (o len : Nat) (r : Option Value) (s u : State) : Prop := NewArr .byte "[B" len (fun j => .int (lo8 (cv A (o + j)))) r s u ∧ u.heap.size = s.heap.size + 1
/-- no char of the range above 255: a new byte[] of their low bytes -/
theorem law (l : Launch) (b : Addr) (A : Cell) (o len : Nat) : Law l yN 3 3 1 18 yB 6 (some (.array .byte)) site (P b A o len) (E b A o len) [] 1 len := by
  refine Law.of_walk (plainFor_of_name (by decide +kernel)) (by decide +kernel) (by decide +kernel) (by decide) (fun _ _ h => by rw [h.1]; rfl) (fun _ U U' hal hh h => ⟨h.1, h.2.1.mv hal hh, h.2.2⟩) (fun r U U' V V' h1 hal h2 h => ⟨NewArr.mv r U U' V V' h1 hal h2 h.1, by rw [h1, h2]; exact h.2⟩) ?_
  intro p e s m args below meth c s₁ X0 hexec hbytes hml hret hlk hnm hown hh0 W hP
  obtain ⟨rfl, hA, l1, l2, hp⟩ := hP
  have a31 := hA.1.2.2.2
  have c1 : Steps p.tables e below (s₁.setTop (entryFrame m #[.ref b, .int (Int32.ofNat o), .int (Int32.ofNat len)] 6)) (s₁.setTop (mkF m 0 #[.val (.ref b), .val (.int (Int32.ofNat o)), .val (.int (Int32.ofNat len)), .unset, .unset, .unset] [])) := entry rfl
  have c2 : Steps p.tables e below (s₁.setTop (entryFrame m #[.ref b, .int (Int32.ofNat o), .int (Int32.ofNat len)] 6)) (s₁.setTop (mkF m 1 #[.val (.ref b), .val (.int (Int32.ofNat o)), .val (.int (Int32.ofNat len)), .unset, .unset, .unset] [.int (Int32.ofNat len)])) := c1.trans (by
    refine XS.iloadN X0.here hexec rfl (hb hbytes d0) rfl ?_
    exact Steps.refl _)
  obtain ⟨T3, B3, X3, ba3, bs3, bv3, bh3, bf3, st3⟩ := X0.anew hexec (atype := .byte) (wk W (.arrayClass .byte)) rfl (by show len * 1 ≤ _; omega) (by omega) (g := (mkF m 1 #[.val (.ref b), .val (.int (Int32.ofNat o)), .val (.int (Int32.ofNat len)), .unset, .unset, .unset] [.int (Int32.ofNat len)])) rfl (hb hbytes d1) (rest := []) rfl (Nat.le_refl _) (by show 0 + len ≤ len; omega)
  rw [hh0] at ba3 st3
  have kp3 : XT.Kept s T3 := (XT.Kept.of_eq hh0).push bh3
  have hA3 := hA.keep X3.warmed.alike (kp3 _ _ hA.1.1)
  have hne : b ≠ s.heap.size := hA.1.ne
  have c4 : Steps p.tables e below (s₁.setTop (entryFrame m #[.ref b, .int (Int32.ofNat o), .int (Int32.ofNat len)] 6)) (T3.setTop (mkF m 3 #[.val (.ref b), .val (.int (Int32.ofNat o)), .val (.int (Int32.ofNat len)), .unset, .unset, .unset] [.ref s.heap.size])) := c2.trans (st3 _ (Steps.refl _))
  have c5 : Steps p.tables e below (s₁.setTop (entryFrame m #[.ref b, .int (Int32.ofNat o), .int (Int32.ofNat len)] 6)) (T3.setTop (mkF m 9 #[.val (.ref b), .val (.int (Int32.ofNat o)), .val (.int (Int32.ofNat len)), .val (.ref s.heap.size), .unset, .unset] [.int (Int32.ofNat len), .int 0, .ref s.heap.size, .int (Int32.ofNat o), .ref b])) := c4.trans (by
    refine XS.astoreN X3.here hexec rfl (hb hbytes d3) rfl rfl rfl ?_
    refine XS.aloadN X3.here hexec rfl (hb hbytes d4) rfl rfl ?_
    refine XS.iloadN X3.here hexec rfl (hb hbytes d5) rfl ?_
    refine XS.aloadN X3.here hexec rfl (hb hbytes d6) rfl rfl ?_
    refine iconstV X3.here hexec rfl 0 (hb hbytes d7) (by decide) ?_
    refine XS.iloadN X3.here hexec rfl (hb hbytes d8) rfl ?_
    exact Steps.refl _)
  obtain ⟨v6, T6, X6, E6, g6⟩ := X3.callS hexec (Cmp5.law l b A s.heap.size B3 o 0 len) hown (wks W (staticW U16 115 Cmp5.yN)) (wk W Cmp5.tab) (W := 0) (Nat.le_of_ble_eq_true rfl) (Nat.le_of_ble_eq_true rfl) (Nat.le_refl _) (by show 0 + len + 0 ≤ len; omega) (g := (mkF m 9 #[.val (.ref b), .val (.int (Int32.ofNat o)), .val (.int (Int32.ofNat len)), .val (.ref s.heap.size), .unset, .unset] [.int (Int32.ofNat len), .int (Int32.ofNat 0), .ref s.heap.size, .int (Int32.ofNat o), .ref b])) rfl (by rw [hml]; rfl) c5 (argsL := [.ref b, .int (Int32.ofNat o), .ref s.heap.size, .int (Int32.ofNat 0), .int (Int32.ofNat len)]) (rest := []) rfl rfl (by show 2 * 0 + 0 ≤ _; decide) (hb hbytes d9) (⟨rfl, hA3, ba3, hne, l1, by rw [bs3]; simp, hp⟩)
  obtain ⟨rfl, B6, p6, f6⟩ := E6
  have c7 : Steps p.tables e below (s₁.setTop (entryFrame m #[.ref b, .int (Int32.ofNat o), .int (Int32.ofNat len)] 6)) (T6.setTop (mkF m 12 #[.val (.ref b), .val (.int (Int32.ofNat o)), .val (.int (Int32.ofNat len)), .val (.ref s.heap.size), .unset, .unset] [.int (Int32.ofNat len)])) := g6
  have c8 : Steps p.tables e below (s₁.setTop (entryFrame m #[.ref b, .int (Int32.ofNat o), .int (Int32.ofNat len)] 6)) (T6.setTop (mkF m 58 #[.val (.ref b), .val (.int (Int32.ofNat o)), .val (.int (Int32.ofNat len)), .val (.ref s.heap.size), .val (.int (Int32.ofNat len)), .unset] [.ref s.heap.size])) := c7.trans (by
    refine XS.istore X6.here hexec rfl (hb hbytes d12) rfl rfl ?_
    refine XS.iload X6.here hexec rfl (hb hbytes d14) rfl ?_
    refine XS.iloadN X6.here hexec rfl (hb hbytes d16) rfl ?_
    refine XS.icmpYes X6.here hexec rfl (pc0 := 17) rfl (hb hbytes d17) rfl (ii_eq_t rfl) (by decide) rfl ?_
    refine XS.aloadN X6.here hexec rfl (hb hbytes d57) rfl rfl ?_
    exact Steps.refl _)
  have X8 := X6.wide (L' := []) (cells' := 1) (slots' := len) (fun x hx hlt => by
    simp only [List.nil_append, copyLocs, List.mem_map, List.mem_range] at hx
    obtain ⟨i, -, rfl⟩ := hx
    exact absurd hlt (Nat.lt_irrefl _)) (Nat.le_refl _) (by omega)
  exact ⟨T6, some (.ref s.heap.size), _, _, _, X8, rfl, rfl, rfl, (fun h => by cases h), ⟨⟨rfl, B6, ba3.like (X3.warmed.alike.symm.trans X6.warmed.alike) p6.1 f6.1 f6.2.1 f6.2.2.1, f6.2.1.trans bv3, by rw [X6.warmed.alike.findClass, f6.1]; exact bf3, by rw [f6.2.2.1, bs3]; simp, fun j hj => by rw [f6.2.2.2 j, if_pos (by omega)]; rfl, kp3.put p6 (Nat.le_refl _)⟩, by rw [p6.2.2, bh3, hh0]; simp⟩, fun fs hl => c8.trans (X8.areturnOut hexec rfl hret rfl (hb hbytes d58) hl)⟩
end Cmp3
namespace CodL
def yN : MethodName := ⟨"java/lang/StringUTF16", "coderFromArrayLen", "([BI)B"⟩
abbrev yB : ByteArray := jdk_52_method_15_code
theorem d0 : decode yB 0 = .ok (.iload_n 1, 1) := by decide +kernel
theorem d1 : decode yB 1 = .ok (.aload_n 0, 1) := by decide +kernel
theorem d2 : decode yB 2 = .ok (.arraylength, 1) := by decide +kernel
theorem d3 : decode yB 3 = .ok (.isub, 1) := by decide +kernel
theorem d4 : decode yB 4 = .ok (.bipush 31, 2) := by decide +kernel
theorem d6 : decode yB 6 = .ok (.iushr, 1) := by decide +kernel
theorem d7 : decode yB 7 = .ok (.i2b, 1) := by decide +kernel
theorem d8 : decode yB 8 = .ok (.ireturn, 1) := by decide +kernel
def site : List Cond := []
def tab : Cond := tabOf yN yB 2 (some .byte) site
def P (d : Addr) (B : Cell) (args : Array Value) (s : State) : Prop := args = #[.ref d, .int (Int32.ofNat B.slots.size)] ∧ Arr .byte d B s
def E (r : Option Value) (s u : State) : Prop := XT.PureE (some (.int 0)) r s u
/-- an array as long as the number of chars: LATIN1 -/
theorem law (l : Launch) (d : Addr) (B : Cell) : Law l yN 2 2 0 0 yB 2 (some .byte) site (P d B) E [] 0 0 := by
  refine Law.of_walk (plainFor_of_name (by decide +kernel)) (by decide +kernel) (by decide +kernel) (by decide) (fun _ _ h => by rw [h.1]; rfl) (fun _ U U' hal hh h => ⟨h.1, h.2.mv hal hh⟩) (fun r U U' V V' h1 hal h2 h => XT.PureE.mv r U U' V V' h1 hal h2 h) ?_
  intro p e s m args below meth c s₁ X0 hexec hbytes hml hret hlk hnm hown hh0 W hP
  obtain ⟨rfl, hB⟩ := hP
  have hB0 := hB.mv X0.warmed.alike hh0
  have c1 : Steps p.tables e below (s₁.setTop (entryFrame m #[.ref d, .int (Int32.ofNat B.slots.size)] 2)) (s₁.setTop (mkF m 0 #[.val (.ref d), .val (.int (Int32.ofNat B.slots.size))] [])) := entry rfl
  have c2 : Steps p.tables e below (s₁.setTop (entryFrame m #[.ref d, .int (Int32.ofNat B.slots.size)] 2)) (s₁.setTop (mkF m 2 #[.val (.ref d), .val (.int (Int32.ofNat B.slots.size))] [.ref d, .int (Int32.ofNat B.slots.size)])) := c1.trans (by
    refine XS.iloadN X0.here hexec rfl (hb hbytes d0) rfl ?_
    refine XS.aloadN X0.here hexec rfl (hb hbytes d1) rfl rfl ?_
    exact Steps.refl _)
  have c3 : Steps p.tables e below (s₁.setTop (entryFrame m #[.ref d, .int (Int32.ofNat B.slots.size)] 2)) (s₁.setTop (mkF m 8 #[.val (.ref d), .val (.int (Int32.ofNat B.slots.size))] [.int (lo8 (ushr (Int32.ofNat B.slots.size - Int32.ofNat B.slots.size) 31))])) := c2.trans (by
    refine X0.alen hexec hB0 rfl rfl (hb hbytes d2) ?_
    refine XS.isub X0.here hexec rfl (hb hbytes d3) rfl ?_
    refine bipushV X0.here hexec rfl 31 (hb hbytes d4) (by decide) ?_
    refine iushr X0.here hexec rfl (hb hbytes d6) rfl ?_
    refine i2b X0.here hexec rfl (hb hbytes d7) rfl ?_
    exact Steps.refl _)
  have e0 : lo8 (ushr (Int32.ofNat B.slots.size - Int32.ofNat B.slots.size) 31) = 0 := by rw [Int32.sub_self]; decide
  rw [e0] at c3
  exact ⟨s₁, some (.int 0), _, _, _, X0, rfl, rfl, rfl, (fun h => by cases h), ⟨rfl, hh0⟩, fun fs hl => c3.trans (X0.ireturnOut hexec hret rfl (Or.inr (Or.inr (Or.inl rfl))) (hb hbytes d8) hl)⟩
end CodL
/-- the String at a is Latin-1 over a new byte[] (the heap's one new cell): the low bytes of the len chars of A from o on; every cell but a is kept -/
def Got (a : Addr) (D : Cell) (fV fC : Field) (A : Cell) (o len : Nat) (r : Option Value) (s u : State) : Prop := r = none ∧ ∃ D' V : Cell, Blank "java/lang/String" a D' u ∧ Same D D' [fV.slot, fC.slot] ∧ D'.slots[fV.slot]? = some (.ref s.heap.size) ∧ D'.slots[fC.slot]? = some (.int 0) ∧ Arr .byte s.heap.size V u ∧ V.vm = .none ∧ u.vm.findClass "[B" = some V.cls ∧ V.slots.size = len ∧ (∀ j, j < len → V.slots[j]? = some (.int (lo8 (cv A (o + j))))) ∧ (∀ (y : Addr) (c : Cell), y ≠ a → s.heap[y]? = some c → u.heap[y]? = some c) ∧ u.heap.size = s.heap.size + 1
theorem Got.mv {a : Addr} {D A : Cell} {fV fC : Field} {o len : Nat} : ∀ r (U U' V V' : State), U'.heap = U.heap → V.vm.Alike V'.vm → V'.heap = V.heap → Got a D fV fC A o len r U V → Got a D fV fC A o len r U' V' :=
  fun r U U' V V' h1 hal h2 ⟨e0, D', X, a1, a2, a3, a4, a5, a6, a7, a8, a9, a10, a11⟩ => ⟨e0, D', X, a1.mv hal h2, a2, by rw [h1]; exact a3, a4, by rw [h1]; exact a5.mv hal h2, a6, by rw [hal.findClass]; exact a7, a8, a9, by rw [h1, h2]; exact a10, by rw [h1, h2]; exact a11⟩
namespace New4
def yN : MethodName := ⟨"java/lang/String", "<init>", "([CIILjava/lang/Void;)V"⟩
abbrev yB : ByteArray := jdk_42_method_149_code
theorem d0 : decode yB 0 = .ok (.aload_n 0, 1) := by decide +kernel
theorem d1 : decode yB 1 = .ok (.invokespecial 1, 3) := by decide +kernel
theorem d4 : decode yB 4 = .ok (.iload_n 3, 1) := by decide +kernel
theorem d5 : decode yB 5 = .ok (.ifCond (.ne) 22, 3) := by decide +kernel
theorem d27 : decode yB 27 = .ok (.getstatic 38, 3) := by decide +kernel
theorem d30 : decode yB 30 = .ok (.ifCond (.eq) 28, 3) := by decide +kernel
theorem d33 : decode yB 33 = .ok (.aload_n 1, 1) := by decide +kernel
theorem d34 : decode yB 34 = .ok (.iload_n 2, 1) := by decide +kernel
theorem d35 : decode yB 35 = .ok (.iload_n 3, 1) := by decide +kernel
theorem d36 : decode yB 36 = .ok (.invokestatic 177, 3) := by decide +kernel
theorem d39 : decode yB 39 = .ok (.astore 5, 2) := by decide +kernel
theorem d41 : decode yB 41 = .ok (.aload_n 0, 1) := by decide +kernel
theorem d42 : decode yB 42 = .ok (.aload 5, 2) := by decide +kernel
theorem d44 : decode yB 44 = .ok (.iload_n 3, 1) := by decide +kernel
theorem d45 : decode yB 45 = .ok (.invokestatic 47, 3) := by decide +kernel
theorem d48 : decode yB 48 = .ok (.putfield 15, 3) := by decide +kernel
theorem d51 : decode yB 51 = .ok (.aload_n 0, 1) := by decide +kernel
theorem d52 : decode yB 52 = .ok (.aload 5, 2) := by decide +kernel
theorem d54 : decode yB 54 = .ok (.putfield 9, 3) := by decide +kernel
theorem d57 : decode yB 57 = .ok (.return_, 1) := by decide +kernel
def site : List Cond := [.fieldLink "java/lang/String" 38 "java/lang/String" "COMPACT_STRINGS" "Z", Cmp3.tab, CodL.tab, .laysFinal "java/lang/String" "java/lang/String" "value" "[B", .fieldLink "java/lang/String" 9 "java/lang/String" "value" "[B", .laysFinal "java/lang/String" "java/lang/String" "coder" "B", .fieldLink "java/lang/String" 15 "java/lang/String" "coder" "B"] ++ objW "java/lang/String" 1 ++ staticW "java/lang/String" 177 Cmp3.yN ++ staticW "java/lang/String" 47 CodL.yN
def tab : Cond := tabOf yN yB 6 none site
def P (a : Addr) (D : Cell) (fV fC : Field) (b : Addr) (A : Cell) (z : Int32) (o len : Nat) (args : Array Value) (s : State) : Prop := args = #[.ref a, .ref b, .int (Int32.ofNat o), .int (Int32.ofNat len), .null] ∧ Blank "java/lang/String" a D s ∧ Found "java/lang/String" "value" "[B" fV s ∧ Found "java/lang/String" "coder" "B" fC s ∧ Ch b A s ∧ StaticIs s "java/lang/String" "COMPACT_STRINGS" "Z" (.int z) ∧ ¬ z = 0 ∧ 0 < len ∧ o + len ≤ A.slots.size ∧ len ≤ 536870912 ∧ ∀ i, i < len → ¬ 255 < cv A (o + i)
def E (a : Addr) (D : Cell) (fV fC : Field) (A : Cell) (o len : Nat) (r : Option Value) (s u : State) : Prop := Got a D fV fC A o len r s u
/-- len > 0, no char of the range above 255: a Latin-1 String of their low bytes -/
theorem law (l : Launch) (a : Addr) (D : Cell) (fV fC : Field) (b : Addr) (A : Cell) (z : Int32) (o len : Nat) : Law l yN 5 4 2 35 yB 6 none site (P a D fV fC b A z o len) (E a D fV fC A o len) [⟨a, fC.slot⟩, ⟨a, fV.slot⟩] 1 len := by
  refine Law.of_walk (plainFor_of_name (by decide +kernel)) (by decide +kernel) (by decide +kernel) (by decide) (fun _ _ h => by rw [h.1]; rfl) (fun _ U U' hal hh h => ⟨h.1, h.2.1.mv hal hh, h.2.2.1.al hal, h.2.2.2.1.al hal, h.2.2.2.2.1.mv hal hh, h.2.2.2.2.2.1.there hal hh, h.2.2.2.2.2.2⟩) (fun r U U' V V' h1 hal h2 h => Got.mv r U U' V V' h1 hal h2 h) ?_
  intro p e s m args below meth c s₁ X0 hexec hbytes hml hret hlk hnm hown hh0 W hP
  obtain ⟨rfl, hB, f1, f2, hA, s1, hz, l0, l1, l2, hp⟩ := hP
  have a31 := hA.1.2.2.2
  have c1 : Steps p.tables e below (s₁.setTop (entryFrame m #[.ref a, .ref b, .int (Int32.ofNat o), .int (Int32.ofNat len), .null] 6)) (s₁.setTop (mkF m 0 #[.val (.ref a), .val (.ref b), .val (.int (Int32.ofNat o)), .val (.int (Int32.ofNat len)), .val .null, .unset] [])) := entry rfl
  have c2 : Steps p.tables e below (s₁.setTop (entryFrame m #[.ref a, .ref b, .int (Int32.ofNat o), .int (Int32.ofNat len), .null] 6)) (s₁.setTop (mkF m 1 #[.val (.ref a), .val (.ref b), .val (.int (Int32.ofNat o)), .val (.int (Int32.ofNat len)), .val .null, .unset] [.ref a])) := c1.trans (by
    refine XS.aloadN X0.here hexec rfl (hb hbytes d0) rfl rfl ?_
    exact Steps.refl _)
  obtain ⟨T3, X3, q3, st3⟩ := X0.oinit hexec hown (wks W (objW "java/lang/String" 1)) (g := (mkF m 1 #[.val (.ref a), .val (.ref b), .val (.int (Int32.ofNat o)), .val (.int (Int32.ofNat len)), .val .null, .unset] [.ref a])) rfl (by rw [hml]; rfl) (rest := []) rfl (hb hbytes d1) (W := 0) (by show 2 * 0 + 0 ≤ _; decide) (Nat.le_of_ble_eq_true rfl) (Nat.le_of_ble_eq_true rfl)
  have hh3 := q3.trans hh0
  have c4 : Steps p.tables e below (s₁.setTop (entryFrame m #[.ref a, .ref b, .int (Int32.ofNat o), .int (Int32.ofNat len), .null] 6)) (T3.setTop (mkF m 27 #[.val (.ref a), .val (.ref b), .val (.int (Int32.ofNat o)), .val (.int (Int32.ofNat len)), .val .null, .unset] [])) := (c2.trans (st3 _ (Steps.refl _))).trans (by
    refine XS.iloadN X3.here hexec rfl (hb hbytes d4) rfl ?_
    refine XS.ifYes X3.here hexec rfl (pc0 := 5) rfl (hb hbytes d5) rfl (i0_ne_t (nz32 (by omega) l0)) (by decide) rfl ?_
    exact Steps.refl _)
  obtain ⟨T5, X5, q5, st5⟩ := X3.sget hexec hown (wk W (.fieldLink "java/lang/String" 38 "java/lang/String" "COMPACT_STRINGS" "Z")) s1 (fun _ _ h => by rw [hh3]; exact h) (g := (mkF m 27 #[.val (.ref a), .val (.ref b), .val (.int (Int32.ofNat o)), .val (.int (Int32.ofNat len)), .val .null, .unset] [])) rfl (hb hbytes d27)
  have hh5 := q5.trans hh3
  have c6 : Steps p.tables e below (s₁.setTop (entryFrame m #[.ref a, .ref b, .int (Int32.ofNat o), .int (Int32.ofNat len), .null] 6)) (T5.setTop (mkF m 30 #[.val (.ref a), .val (.ref b), .val (.int (Int32.ofNat o)), .val (.int (Int32.ofNat len)), .val .null, .unset] [.int z])) := c4.trans (st5 _ (Steps.refl _))
  have c7 : Steps p.tables e below (s₁.setTop (entryFrame m #[.ref a, .ref b, .int (Int32.ofNat o), .int (Int32.ofNat len), .null] 6)) (T5.setTop (mkF m 36 #[.val (.ref a), .val (.ref b), .val (.int (Int32.ofNat o)), .val (.int (Int32.ofNat len)), .val .null, .unset] [.int (Int32.ofNat len), .int (Int32.ofNat o), .ref b])) := c6.trans (by
    refine XS.ifNo X5.here hexec rfl (hb hbytes d30) rfl (i0_eq_f hz) ?_
    refine XS.aloadN X5.here hexec rfl (hb hbytes d33) rfl rfl ?_
    refine XS.iloadN X5.here hexec rfl (hb hbytes d34) rfl ?_
    refine XS.iloadN X5.here hexec rfl (hb hbytes d35) rfl ?_
    exact Steps.refl _)
  obtain ⟨v8, T8, X8, E8, g8⟩ := X5.callS hexec (Cmp3.law l b A o len) hown (wks W (staticW "java/lang/String" 177 Cmp3.yN)) (wk W Cmp3.tab) (W := 0) (Nat.le_of_ble_eq_true rfl) (Nat.le_of_ble_eq_true rfl) (Nat.le_refl _) (by show 0 + len ≤ len; omega) (g := (mkF m 36 #[.val (.ref a), .val (.ref b), .val (.int (Int32.ofNat o)), .val (.int (Int32.ofNat len)), .val .null, .unset] [.int (Int32.ofNat len), .int (Int32.ofNat o), .ref b])) rfl (by rw [hml]; rfl) c7 (argsL := [.ref b, .int (Int32.ofNat o), .int (Int32.ofNat len)]) (rest := []) rfl rfl (by show 2 * 0 + 0 ≤ _; decide) (hb hbytes d36) (⟨rfl, hA.mv X5.warmed.alike hh5, l1, l2, hp⟩)
  obtain ⟨e8, z8⟩ := E8
  obtain ⟨rfl, N, n1, n2, n3, n4, n5, n6⟩ := NewArr.mv _ T5 s _ _ hh5.symm (Vm.Alike.refl _) rfl e8
  rw [hh5] at z8
  have hB1 := hB.keep X8.warmed.alike (n6 _ _ hB.1)
  have hne : s.heap.size ≠ a := (Nat.ne_of_lt (Array.getElem?_eq_some_iff.mp hB.1).1).symm
  have c9 : Steps p.tables e below (s₁.setTop (entryFrame m #[.ref a, .ref b, .int (Int32.ofNat o), .int (Int32.ofNat len), .null] 6)) (T8.setTop (mkF m 39 #[.val (.ref a), .val (.ref b), .val (.int (Int32.ofNat o)), .val (.int (Int32.ofNat len)), .val .null, .unset] [.ref s.heap.size])) := g8
  have c10 : Steps p.tables e below (s₁.setTop (entryFrame m #[.ref a, .ref b, .int (Int32.ofNat o), .int (Int32.ofNat len), .null] 6)) (T8.setTop (mkF m 45 #[.val (.ref a), .val (.ref b), .val (.int (Int32.ofNat o)), .val (.int (Int32.ofNat len)), .val .null, .val (.ref s.heap.size)] [.int (Int32.ofNat N.slots.size), .ref s.heap.size, .ref a])) := by
    have hc : Steps p.tables e below (s₁.setTop (entryFrame m #[.ref a, .ref b, .int (Int32.ofNat o), .int (Int32.ofNat len), .null] 6)) (T8.setTop (mkF m 45 #[.val (.ref a), .val (.ref b), .val (.int (Int32.ofNat o)), .val (.int (Int32.ofNat len)), .val .null, .val (.ref s.heap.size)] [.int (Int32.ofNat len), .ref s.heap.size, .ref a])) := c9.trans (by
      refine XS.astore X8.here hexec rfl (hb hbytes d39) rfl rfl rfl ?_
      refine XS.aloadN X8.here hexec rfl (hb hbytes d41) rfl rfl ?_
      refine XS.aload X8.here hexec rfl (hb hbytes d42) rfl rfl ?_
      refine XS.iloadN X8.here hexec rfl (hb hbytes d44) rfl ?_
      exact Steps.refl _)
    rw [n4]; exact hc
  obtain ⟨v11, T11, X11, E11, g11⟩ := X8.callS hexec (CodL.law l s.heap.size N) hown (wks W (staticW "java/lang/String" 47 CodL.yN)) (wk W CodL.tab) (W := 1) (Nat.le_of_ble_eq_true rfl) (Nat.le_of_ble_eq_true rfl) (Nat.le_refl _) (by show 0 + len + 0 ≤ len; omega) (g := (mkF m 45 #[.val (.ref a), .val (.ref b), .val (.int (Int32.ofNat o)), .val (.int (Int32.ofNat len)), .val .null, .val (.ref s.heap.size)] [.int (Int32.ofNat N.slots.size), .ref s.heap.size, .ref a])) rfl (by rw [hml]; rfl) c10 (argsL := [.ref s.heap.size, .int (Int32.ofNat N.slots.size)]) (rest := [.ref a]) rfl rfl (by show 2 * 0 + (1 + 0) ≤ _; decide) (hb hbytes d45) (⟨rfl, n1⟩)
  obtain ⟨rfl, q11⟩ := E11
  have hB11 := hB1.mv (X8.warmed.alike.symm.trans X11.warmed.alike) q11
  have c12 : Steps p.tables e below (s₁.setTop (entryFrame m #[.ref a, .ref b, .int (Int32.ofNat o), .int (Int32.ofNat len), .null] 6)) (T11.setTop (mkF m 48 #[.val (.ref a), .val (.ref b), .val (.int (Int32.ofNat o)), .val (.int (Int32.ofNat len)), .val .null, .val (.ref s.heap.size)] [.int 0, .ref a])) := g11
  obtain ⟨T13, X13, p13, bl13, sl13, st13⟩ := X11.finit hexec hown (wk W (.fieldLink "java/lang/String" 15 "java/lang/String" "coder" "B")) (Or.inr ⟨_, (wk W (.laysFinal "java/lang/String" "java/lang/String" "coder" "B"))⟩) (Or.inl ⟨rfl, hnm⟩) f2 (Or.inl rfl) hB11 (t := .byte) (by decide +kernel) rfl (g := (mkF m 48 #[.val (.ref a), .val (.ref b), .val (.int (Int32.ofNat o)), .val (.int (Int32.ofNat len)), .val .null, .val (.ref s.heap.size)] [.int 0, .ref a])) rfl (rest := []) rfl (hb hbytes d48)
  have c14 : Steps p.tables e below (s₁.setTop (entryFrame m #[.ref a, .ref b, .int (Int32.ofNat o), .int (Int32.ofNat len), .null] 6)) (T13.setTop (mkF m 54 #[.val (.ref a), .val (.ref b), .val (.int (Int32.ofNat o)), .val (.int (Int32.ofNat len)), .val .null, .val (.ref s.heap.size)] [.ref s.heap.size, .ref a])) := (c12.trans (st13 _ (Steps.refl _))).trans (by
    refine XS.aloadN X13.here hexec rfl (hb hbytes d51) rfl rfl ?_
    refine XS.aload X13.here hexec rfl (hb hbytes d52) rfl rfl ?_
    exact Steps.refl _)
  obtain ⟨T15, X15, p15, bl15, sl15, st15⟩ := X13.finit hexec hown (wk W (.fieldLink "java/lang/String" 9 "java/lang/String" "value" "[B")) (Or.inr ⟨_, (wk W (.laysFinal "java/lang/String" "java/lang/String" "value" "[B"))⟩) (Or.inl ⟨rfl, hnm⟩) f1 (Or.inl rfl) bl13 (t := (.array .byte)) (by decide +kernel) rfl (g := (mkF m 54 #[.val (.ref a), .val (.ref b), .val (.int (Int32.ofNat o)), .val (.int (Int32.ofNat len)), .val .null, .val (.ref s.heap.size)] [.ref s.heap.size, .ref a])) rfl (rest := []) rfl (hb hbytes d54)
  have c16 : Steps p.tables e below (s₁.setTop (entryFrame m #[.ref a, .ref b, .int (Int32.ofNat o), .int (Int32.ofNat len), .null] 6)) (T15.setTop (mkF m 57 #[.val (.ref a), .val (.ref b), .val (.int (Int32.ofNat o)), .val (.int (Int32.ofNat len)), .val .null, .val (.ref s.heap.size)] [])) := c14.trans (st15 _ (Steps.refl _))
  have ap := apart (Or.inr ⟨_, (wk W (.laysFinal "java/lang/String" "java/lang/String" "value" "[B"))⟩) (Or.inr ⟨_, (wk W (.laysFinal "java/lang/String" "java/lang/String" "coder" "B"))⟩) f1 f2 (t₁ := .array .byte) (t₂ := .byte) (by decide +kernel) (by decide +kernel) (by decide)
  have al := X8.warmed.alike.symm.trans X15.warmed.alike
  have n7 : T11.heap[s.heap.size]? = some N := by rw [q11]; exact n1.1
  exact ⟨T15, none, _, _, _, X15, by simp, rfl, by omega, (fun _ => rfl), ⟨rfl, _, N, bl15, ((Same.refl D _).set _ (by simp)).set _ (by simp), sl15, (Cell.slots_setSlot_ne _ ap).trans sl13, n1.keep al (p15.other hne (p13.other hne n7)), n2, by rw [al.findClass]; exact n3, n4, n5, fun y c h1 h2 => p15.other h1 (p13.other h1 (by rw [q11]; exact n6 y c h2)), by rw [p15.2.2, p13.2.2, q11]; exact z8⟩, fun fs hl => c16.trans (X15.returnOut hexec hret (hb hbytes d57) hl)⟩
end New4
namespace New1
def yN : MethodName := ⟨"java/lang/String", "<init>", "([C)V"⟩
abbrev yB : ByteArray := jdk_42_method_3_code
theorem d0 : decode yB 0 = .ok (.aload_n 0, 1) := by decide +kernel
theorem d1 : decode yB 1 = .ok (.aload_n 1, 1) := by decide +kernel
theorem d2 : decode yB 2 = .ok (.iconst 0, 1) := by decide +kernel
theorem d3 : decode yB 3 = .ok (.aload_n 1, 1) := by decide +kernel
theorem d4 : decode yB 4 = .ok (.arraylength, 1) := by decide +kernel
theorem d5 : decode yB 5 = .ok (.aconst_null, 1) := by decide +kernel
theorem d6 : decode yB 6 = .ok (.invokespecial 27, 3) := by decide +kernel
theorem d9 : decode yB 9 = .ok (.return_, 1) := by decide +kernel
def site : List Cond := [New4.tab] ++ initW "java/lang/String" 27 New4.yN
def tab : Cond := tabOf yN yB 2 none site
def P (a : Addr) (D : Cell) (fV fC : Field) (b : Addr) (A : Cell) (z : Int32) (args : Array Value) (s : State) : Prop := args = #[.ref a, .ref b] ∧ Blank "java/lang/String" a D s ∧ Found "java/lang/String" "value" "[B" fV s ∧ Found "java/lang/String" "coder" "B" fC s ∧ Ch b A s ∧ StaticIs s "java/lang/String" "COMPACT_STRINGS" "Z" (.int z) ∧ ¬ z = 0 ∧ 0 < A.slots.size ∧ A.slots.size ≤ 536870912 ∧ ∀ i, i < A.slots.size → ¬ 255 < cv A i
def E (a : Addr) (D : Cell) (fV fC : Field) (A : Cell) (r : Option Value) (s u : State) : Prop := Got a D fV fC A 0 A.slots.size r s u
/-- new String(chars), not empty, no char above 255: a Latin-1 String of their low bytes -/
theorem law (l : Launch) (a : Addr) (D : Cell) (fV fC : Field) (b : Addr) (A : Cell) (z : Int32) : Law l yN 2 1 3 52 yB 2 none site (P a D fV fC b A z) (E a D fV fC A) [⟨a, fC.slot⟩, ⟨a, fV.slot⟩] 1 A.slots.size := by
  refine Law.of_walk (plainFor_of_name (by decide +kernel)) (by decide +kernel) (by decide +kernel) (by decide) (fun _ _ h => by rw [h.1]; rfl) (fun _ U U' hal hh h => ⟨h.1, h.2.1.mv hal hh, h.2.2.1.al hal, h.2.2.2.1.al hal, h.2.2.2.2.1.mv hal hh, h.2.2.2.2.2.1.there hal hh, h.2.2.2.2.2.2⟩) (fun r U U' V V' h1 hal h2 h => Got.mv r U U' V V' h1 hal h2 h) ?_
  intro p e s m args below meth c s₁ X0 hexec hbytes hml hret hlk hnm hown hh0 W hP
  obtain ⟨rfl, hB, f1, f2, hA, s1, hz, l0, l2, hp⟩ := hP
  have c1 : Steps p.tables e below (s₁.setTop (entryFrame m #[.ref a, .ref b] 2)) (s₁.setTop (mkF m 0 #[.val (.ref a), .val (.ref b)] [])) := entry rfl
  have c2 : Steps p.tables e below (s₁.setTop (entryFrame m #[.ref a, .ref b] 2)) (s₁.setTop (mkF m 6 #[.val (.ref a), .val (.ref b)] [.null, .int (Int32.ofNat A.slots.size), .int 0, .ref b, .ref a])) := c1.trans (by
    refine XS.aloadN X0.here hexec rfl (hb hbytes d0) rfl rfl ?_
    refine XS.aloadN X0.here hexec rfl (hb hbytes d1) rfl rfl ?_
    refine iconstV X0.here hexec rfl 0 (hb hbytes d2) (by decide) ?_
    refine XS.aloadN X0.here hexec rfl (hb hbytes d3) rfl rfl ?_
    refine X0.alen hexec (hA.1.mv X0.warmed.alike hh0) rfl rfl (hb hbytes d4) ?_
    refine XS.aconstNull X0.here hexec rfl (hb hbytes d5) ?_
    exact Steps.refl _)
  obtain ⟨v3, T3, X3, E3, g3⟩ := X0.callN hexec (New4.law l a D fV fC b A z 0 A.slots.size) rfl hown (wks W (initW "java/lang/String" 27 New4.yN)) (W New4.tab (by simp only [site, List.mem_cons, List.mem_append, true_or, or_true])) (W := 0) (Nat.le_of_ble_eq_true rfl) (Nat.le_of_ble_eq_true rfl) (Nat.le_refl _) (by show 0 + A.slots.size ≤ A.slots.size; omega) (g := (mkF m 6 #[.val (.ref a), .val (.ref b)] [.null, .int (Int32.ofNat A.slots.size), .int (Int32.ofNat 0), .ref b, .ref a])) rfl (by rw [hml]; rfl) c2 (argsL := [.ref b, .int (Int32.ofNat 0), .int (Int32.ofNat A.slots.size), .null]) (rest := []) rfl rfl (by show 2 * 0 + 0 ≤ _; decide) (hb hbytes d6) (⟨rfl, hB.mv X0.warmed.alike hh0, f1.al X0.warmed.alike, f2.al X0.warmed.alike, hA.mv X0.warmed.alike hh0, s1.there X0.warmed.alike hh0, hz, l0, by omega, l2, fun i hi => by rw [Nat.zero_add]; exact hp i hi⟩)
  have e0 := Got.mv _ s₁ s _ _ hh0.symm (Vm.Alike.refl _) rfl E3
  obtain rfl := e0.1
  have c4 : Steps p.tables e below (s₁.setTop (entryFrame m #[.ref a, .ref b] 2)) (T3.setTop (mkF m 9 #[.val (.ref a), .val (.ref b)] [])) := g3
  exact ⟨T3, none, _, _, _, X3, by simp, rfl, by omega, (fun _ => rfl), e0, fun fs hl => c4.trans (X3.returnOut hexec hret (hb hbytes d9) hl)⟩
theorem pays {l : Launch} {R : Room} {p : Program} {e : Env} {below : List Frame} {s : State} {sargs : Array Value} {len W : Nat} (a : Addr) (D : Cell) (fV fC : Field) (b : Addr) (A : Cell) (z : Int32) (htab : tab.before sargs s = true) (hfr : 4 ≤ R.frames) (hlo : W + 65 ≤ R.locals) :
    Back l R p e below s sargs yN len W (fun A₁ a₁ => A₁.cells + 1 ≤ R.cells ∧ A₁.slots + A.slots.size ≤ R.slots ∧ P a D fV fC b A z a₁ A₁.U) (fun A₁ _ v₁ B₁ => E a D fV fC A v₁ A₁.U B₁.U ∧ B₁.locs = A₁.locs ++ [⟨a, fC.slot⟩, ⟨a, fV.slot⟩] ∧ B₁.cells = A₁.cells + 1 ∧ B₁.slots = A₁.slots + A.slots.size) :=
  (law l a D fV fC b A z).pays htab hfr (by omega)
end New1
end StrChars
namespace StrChars.Road
open Jvm Sem ClassFile Op Lib Jvm.Stand Jvm.Free Jvm.Free.XT
open Jvm.Lib.Cold (StaticIs)
abbrev ST : String := "java/lang/String"
/-- every table word that New1's law asks, flat -/
abbrev words : List Jvm.Cond := [.code New1.yN New1.yB 2 none, .initialized ST, .methodLink ST 27 New4.yN, .instanceMethod New4.yN,
  .code New4.yN New4.yB 6 none, .fieldLink ST 38 ST "COMPACT_STRINGS" "Z", .laysFinal ST ST "value" "[B", .fieldLink ST 9 ST "value" "[B", .laysFinal ST ST "coder" "B", .fieldLink ST 15 ST "coder" "B",
  .methodLink ST 1 Lib.objectInit, .instanceMethod Lib.objectInit, .code Lib.objectInit ⟨#[0xb1]⟩ 1 none, .methodLink ST 177 Cmp3.yN, .static Cmp3.yN, .methodLink ST 47 CodL.yN, .static CodL.yN,
  .code Cmp3.yN Cmp3.yB 6 (some (.array .byte)), .initialized U16, .arrayClass .byte, .methodLink U16 115 Cmp5.yN, .static Cmp5.yN, .code Cmp5.yN Cmp5.yB 7 (some .int), .code CodL.yN CodL.yB 2 (some .byte)]
theorem tab_of {a : Array Value} {s : State} (h : ∀ w ∈ words, w.before a s = true) : New1.tab.before a s = true := by
  have h5 : Cmp5.tab.before a s = true := unparts (wk h (.code Cmp5.yN Cmp5.yB 7 (some .int))) (wks h (.initialized Cmp5.yN.cls :: Cmp5.site))
  have hc : CodL.tab.before a s = true := unparts (wk h (.code CodL.yN CodL.yB 2 (some .byte))) (wks h (.initialized CodL.yN.cls :: CodL.site))
  have q5 : ∀ w ∈ Cmp5.tab :: words, w.before a s = true := fun w hw => (List.mem_cons.mp hw).elim (fun e => e ▸ h5) (h w)
  have h3 : Cmp3.tab.before a s = true := unparts (wk q5 (.code Cmp3.yN Cmp3.yB 6 (some (.array .byte)))) (wks q5 (.initialized Cmp3.yN.cls :: Cmp3.site))
  have q3 : ∀ w ∈ Cmp3.tab :: CodL.tab :: words, w.before a s = true := fun w hw => (List.mem_cons.mp hw).elim (fun e => e ▸ h3) fun hw => (List.mem_cons.mp hw).elim (fun e => e ▸ hc) (h w)
  have h4 : New4.tab.before a s = true := unparts (wk q3 (.code New4.yN New4.yB 6 none)) (wks q3 (.initialized New4.yN.cls :: New4.site))
  have q4 : ∀ w ∈ New4.tab :: words, w.before a s = true := fun w hw => (List.mem_cons.mp hw).elim (fun e => e ▸ h4) (h w)
  exact unparts (wk q4 (.code New1.yN New1.yB 2 none)) (wks q4 (.initialized New1.yN.cls :: New1.site))
/-- the words ride from the start Z to the walk's own state -/
theorem moved {Z s : State} {a0 args : Array Value} (hZ : Z.Warmed39 s.vm) (hw : ∀ d ∈ words, d.before a0 Z = true) : ∀ d ∈ words, d.before args s = true := fun d hd => by
  have q := hw d hd
  have t : ∀ d ∈ words, d = .arrayClass .byte ∨ (d.onTables && d.keepsFace) = true := by decide +kernel
  rcases t d hd with rfl | t
  · exact RoadKit.mvA hZ q
  · exact RoadKit.mv hZ q t
/-- WHAT COMES BACK, over the tables of the start Z: h the heap at the call, h' behind it -/
def Q (Z : State) (x : Addr) (A : Cell) (h : Heap) (v : Option Value) (h' : Heap) (L : List Loc) : Prop := v = none ∧ (∀ y ∈ L, y.base = x) ∧ RoadKit.Keep h h' [x] ∧ h'.size = h.size + 1 ∧ RoadKit.Exa Z h' x ST ∧ RoadKit.Fld Z h' x ST "value" "[B" (.ref h.size) ∧ RoadKit.Fld Z h' x ST "coder" "B" (.int 0) ∧
  (∃ V : Cell, RoadKit.Arr Z h' h.size V .byte ∧ V.vm = .none ∧ Z.vm.findClass "[B" = some V.cls ∧ V.slots.size = A.slots.size ∧ ∀ j, j < A.slots.size → V.slots[j]? = some (.int (lo8 (cv A j)))) ∧
  ∀ (O n d : String) (w : Value), RoadKit.Fld Z h x O n d w → RoadKit.slotOf Z O n d ≠ RoadKit.slotOf Z ST "value" "[B" → RoadKit.slotOf Z O n d ≠ RoadKit.slotOf Z ST "coder" "B" → RoadKit.Fld Z h' x O n d w
/-- **new String(chars) AT A CALL, IN THE ROAD'S FORM**: for specialBack behind newO: x the fresh String, b the char[] with the cell A -/
theorem back {p : Program} {l : Launch} {e : Env} {R : Room} {s : State} {args : Array Value} {below : List Frame} {len W : Nat} {Z : State} {a0 : Array Value} {h : Heap} (hZ : Z.Warmed39 s.vm) (hw : ∀ d ∈ words, d.before a0 Z = true) {kI : Nat} (wi : (Jvm.Cond.instantiable ST kI).before a0 Z = true)
    {x b : Addr} {A : Cell} {z : Int32} {v0 c0 : Value} (E : RoadKit.Exa Z h x ST) (V : RoadKit.Fld Z h x ST "value" "[B" v0) (C : RoadKit.Fld Z h x ST "coder" "B" c0) (K : RoadKit.Arr Z h b A .char) (hty : Typed .char A) (S : RoadKit.Sta Z h ST "COMPACT_STRINGS" "Z" (.int z)) (hz : ¬ z = 0)
    (l0 : 0 < A.slots.size) (l2 : A.slots.size ≤ 536870912) (hp : ∀ i, i < A.slots.size → ¬ 255 < cv A i) (hfr : 4 ≤ R.frames) (hlo : W + 65 ≤ R.locals) :
    Back l R p e below s args New1.yN len W (fun P a => a = #[.ref x, .ref b] ∧ P.U.heap = h ∧ P.cells + 1 ≤ R.cells ∧ P.slots + A.slots.size ≤ R.slots)
      (fun P _ v B => ∃ L, Q Z x A h v B.U.heap L ∧ B.locs = P.locs ++ L ∧ B.cells = P.cells + 1 ∧ B.slots = P.slots + A.slots.size) := by
  intro m meth c P g ig mk a X hg hsize hdg hW hn hp'
  obtain ⟨rfl, rfl, r1, r2⟩ := hp'
  have al : Z.vm.Alike P.U.vm := hZ.alike.trans X.warmed.alike
  obtain ⟨D, cfV, kV, iV, fV, hD, gV, stV, knV, obV, asV, slV⟩ := id V
  obtain ⟨D', cfC, kC, iC, fC, hD', gC, stC, -, -, asC, slC⟩ := id C
  cases hD.symm.trans hD'
  obtain ⟨D2, kD, e1, e2, e3, e4, e5⟩ := id E
  cases hD.symm.trans e1
  obtain ⟨c2, k2, i1, i2, i3, -⟩ := Cond.instantiable_spec wi
  cases e2.symm.trans i1
  cases e3.symm.trans i2
  obtain ⟨kU, u1, u2⟩ := al.2.2 _ _ e3
  have hB : Blank ST x D P.U := ⟨hD, ⟨knV, fun q hq => by rw [hq] at obV; cases obV⟩, by rw [al.findClass]; exact e2, kU, u1, by rw [u2]; exact i3, by rw [u2]; exact e5 i3⟩
  have F1 : Found ST "value" "[B" fV P.U := ⟨SBG.found_only al ⟨cfV, kV, iV, gV⟩, stV⟩
  have F2 : Found ST "coder" "B" fC P.U := ⟨SBG.found_only al ⟨cfC, kC, iC, gC⟩, stC⟩
  have hA : Ch b A P.U := ⟨⟨K.1, State.isArrayOf_alike al K.2.1, K.2.2, by omega⟩, hty⟩
  have hS : StaticIs P.U ST "COMPACT_STRINGS" "Z" (.int z) := by
    obtain ⟨cfS, iS, kS, fS, st, cS, t1, t2, t3, t4, t5, t6, t7⟩ := S
    exact StaticIs.there (s := { Z with heap := P.U.heap }) ⟨cfS, iS, kS, fS, st, cS, t1, t2, t3, t4, t5, (fun q => by rw [q] at t6; cases t6), t7⟩ al rfl
  obtain ⟨v, B, X', ⟨⟨hv, E', V', q1, q2, q3, q4, q5, q6, q7, q8, q9, q10, q11⟩, hl, hc, hs⟩, st⟩ := New1.pays x D fV fC b A z (tab_of (moved hZ hw)) hfr hlo m meth c P g ig mk _ X hg hsize hdg hW hn ⟨r1, r2, rfl, hB, F1, F2, hA, hS, hz, l0, l2, hp⟩
  have al' : Z.vm.Alike B.U.vm := hZ.alike.trans X'.warmed.alike
  have hsz : E'.slots.size = D.slots.size := by
    obtain ⟨-, -, -, kB, w1, w2, w3⟩ := q1
    obtain ⟨kB', y1, y2⟩ := al'.2.2 _ _ e3
    rw [q2.2.1] at w1
    cases w1.symm.trans y1
    rw [w3, e5 i3, y2]
  refine ⟨v, B, X', ⟨_, ⟨hv, ?_, ⟨by omega, fun y cy hy hn' => q10 y cy (by simpa using hn') hy, fun y cy hy => ?_⟩, q11, ⟨E', _, q1.1, by rw [q2.2.1]; exact e2, by rw [q2.2.1]; exact e3, by rw [q2.1]; exact obV, fun _ => by rw [hsz]; exact e5 i3⟩,
    ⟨E', cfV, kV, iV, fV, q1.1, gV, stV, by rw [q2.1]; exact knV, by rw [q2.1]; exact obV, by rw [q2.2.1]; exact asV, q3⟩, ⟨E', cfC, kC, iC, fC, q1.1, gC, stC, by rw [q2.1]; exact knV, by rw [q2.1]; exact obV, by rw [q2.2.1]; exact asC, q4⟩,
    ⟨V', ⟨q5.1, State.isArrayOf_alike al'.symm q5.2.1, q5.2.2.1⟩, q6, by rw [← al'.findClass]; exact q7, q8, fun j hj => by have := q9 j hj; rwa [Nat.zero_add] at this⟩, fun O n d w F n1 n2 => ?_⟩, hl, hc, hs⟩, st⟩
  · intro y hy
    simp only [List.mem_cons, List.not_mem_nil, or_false] at hy
    rcases hy with rfl | rfl <;> rfl
  · by_cases q : y = x
    · subst q
      cases hD.symm.trans hy
      exact ⟨E', q1.1, q2.2.1, q2.1, hsz⟩
    · exact ⟨cy, q10 y cy q hy, rfl, rfl, rfl⟩
  · obtain ⟨D3, cf, k, i, f, g1, g2, g3, g4, g5, g6, g7⟩ := F
    cases hD.symm.trans g1
    simp only [RoadKit.slotOf, g2, gV, gC, Option.map_some, Option.getD_some] at n1 n2
    exact ⟨E', cf, k, i, f, q1.1, g2, g3, by rw [q2.1]; exact g4, by rw [q2.1]; exact g5, by rw [q2.2.1]; exact g6, by rw [q2.2.2 f.slot (by simp [n1, n2])]; exact g7⟩
end StrChars.Road
namespace StrChars.Road
open Jvm Sem ClassFile Op Lib Jvm.Stand Jvm.Free Jvm.Free.XT
/-- WHAT COMES BACK, the byte[] as a list of values -/
def QA (Z : State) (x : Addr) (zn : Int32) (cs : List Int32) (h : Heap) (v : Option Value) (h' : Heap) (L : List Loc) : Prop := v = none ∧ (∀ y ∈ L, y.base = x) ∧ RoadKit.Keep h h' [x] ∧ h'.size = h.size + 1 ∧ RoadKit.Exa Z h' x ST ∧ RoadKit.Fld Z h' x ST "value" "[B" (.ref h.size) ∧ RoadKit.Fld Z h' x ST "coder" "B" (.int 0) ∧
  (∃ kb, Z.vm.findClass "[B" = some kb ∧ RoadKit.Arv Z h' h.size kb .byte zn (cs.map fun c => .int (lo8 c)) (.int 0)) ∧
  ∀ (O n d : String) (w : Value), RoadKit.Fld Z h x O n d w → RoadKit.slotOf Z O n d ≠ RoadKit.slotOf Z ST "value" "[B" → RoadKit.slotOf Z O n d ≠ RoadKit.slotOf Z ST "coder" "B" → RoadKit.Fld Z h' x O n d w
/-- **new String(chars) AT A CALL, THE ARRAYS AS LISTS**: the char[] at b holds cs, not empty, no char above 255 -/
theorem backArv {p : Program} {l : Launch} {e : Env} {R : Room} {s : State} {args : Array Value} {below : List Frame} {len W : Nat} {Z : State} {a0 : Array Value} {h : Heap} (hZ : Z.Warmed39 s.vm) (hw : ∀ d ∈ words, d.before a0 Z = true) {kI : Nat} (wi : (Jvm.Cond.instantiable ST kI).before a0 Z = true)
    {x b : Addr} {k : ClassId} {zn z : Int32} {cs : List Int32} {dv v0 c0 : Value} (E : RoadKit.Exa Z h x ST) (V : RoadKit.Fld Z h x ST "value" "[B" v0) (C : RoadKit.Fld Z h x ST "coder" "B" c0) (K : RoadKit.Arv Z h b k .char zn (cs.map Value.int) dv) (S : RoadKit.Sta Z h ST "COMPACT_STRINGS" "Z" (.int z)) (hz : ¬ z = 0)
    (hlen : zn.toNatClampNeg = cs.length) (h0 : 0 < cs.length) (hbig : cs.length ≤ 536870912) (hall : ∀ c ∈ cs, ¬ 255 < c) (hfr : 4 ≤ R.frames) (hlo : W + 65 ≤ R.locals) :
    Back l R p e below s args New1.yN len W (fun P a => a = #[.ref x, .ref b] ∧ P.U.heap = h ∧ P.cells + 1 ≤ R.cells ∧ P.slots + cs.length ≤ R.slots)
      (fun P _ v B => ∃ L, QA Z x zn cs h v B.U.heap L ∧ B.locs = P.locs ++ L ∧ B.cells = P.cells + 1 ∧ B.slots = P.slots + cs.length) := by
  obtain ⟨A, K1, K2, K3, K4, K5, K6⟩ := K
  have e : A.slots.size = cs.length := K3.trans hlen
  have hat : ∀ (i : Nat) (hi : i < cs.length), A.slots[i]? = some (.int cs[i]) := fun i hi => by rw [K5 i (by omega)]; simp [List.getD_eq_getElem?_getD, hi]
  have hcv : ∀ (i : Nat) (hi : i < cs.length), cv A i = cs[i] := fun i hi => by unfold cv; rw [hat i hi]
  have hty : Typed .char A := fun i v hv => by
    have hi : i < A.slots.size := (Array.getElem?_eq_some_iff.mp hv).1
    have q := K5 i hi
    rw [hv] at q
    rw [Option.some.inj q]
    exact K6 i hi
  refine Back.mono (back hZ hw wi E V C K1 hty S hz (by omega) (by omega) (fun i hi => by rw [hcv i (by omega)]; exact hall _ (List.getElem_mem _)) hfr hlo) (fun P a hp => ⟨hp.1, hp.2.1, hp.2.2.1, by rw [e]; exact hp.2.2.2⟩) (fun P a v B hp hq => ?_)
  obtain ⟨L, ⟨q1, q2, q3, q4, q5, q6, q7, ⟨V', v1, v2, v3, v4, v5⟩, q9⟩, hl, hc, hs⟩ := hq
  refine ⟨L, ⟨q1, q2, q3, q4, q5, q6, q7, ⟨V'.cls, v3, V', v1, rfl, by rw [v4, e, hlen], K4, fun i hi => ?_, fun i hi => ?_⟩, q9⟩, hl, hc, by rw [hs, e]⟩
  · have hi' : i < cs.length := by omega
    rw [v5 i (by omega), hcv i hi']; simp [List.getD_eq_getElem?_getD, hi']
  · have hi' : i < cs.length := by omega
    simp only [List.getD_eq_getElem?_getD, List.getElem?_map, List.getElem?_eq_getElem hi', Option.map_some, Option.getD_some]
    exact fits_lo8 _
end StrChars.Road
namespace StrChars.Road
open Jvm Sem ClassFile Op Lib Jvm.Stand Jvm.Free Jvm.Free.XT
/-- WHAT COMES BACK, in the writer's own shape -/
def QV (Z : State) (x : Addr) (N : Int32) (bs : List Int32) (h : Heap) (n0 : Nat) (v : Option Value) (h' : Heap) (L : List Loc) : Prop := v = none ∧ RoadKit.Fr n0 L ∧ RoadKit.Keep h h' [x] ∧ RoadKit.Exa Z h' x ST ∧ RoadKit.Fld Z h' x ST "coder" "B" (.int 0) ∧
  ∃ (t : Addr) (kb : ClassId), n0 ≤ t ∧ h.size ≤ t ∧ ¬ t = x ∧ RoadKit.Fld Z h' x ST "value" "[B" (.ref t) ∧ RoadKit.Arv Z h' t kb .byte N (bs.map Value.int) (.int 0)
/-- **new String(chars) AT A CALL, FOR THE WRITER**: a char[] of n known ints, each 0 to 255 -/
theorem backV {p : Program} {l : Launch} {e : Env} {R : Room} {s : State} {args : Array Value} {below : List Frame} {len W : Nat} {Z : State} {a0 : Array Value} {h : Heap} (hZ : Z.Warmed39 s.vm) (hw : ∀ d ∈ words, d.before a0 Z = true) {kI : Nat} (wi : (Jvm.Cond.instantiable ST kI).before a0 Z = true)
    {x b : Addr} {kC : ClassId} {cs bs : List Int32} {d v0 c0 : Value} {z N : Int32} {n n0 : Nat} (hx0 : n0 ≤ x) (hh0 : n0 ≤ h.size) (E : RoadKit.Exa Z h x ST) (V : RoadKit.Fld Z h x ST "value" "[B" v0) (C : RoadKit.Fld Z h x ST "coder" "B" c0) (K : RoadKit.Arv Z h b kC .char N (cs.map Value.int) d) (S : RoadKit.Sta Z h ST "COMPACT_STRINGS" "Z" (.int z)) (hz : ¬ z = 0)
    (hn : cs.length = n) (hN : N = Int32.ofNat n) (l0 : 0 < n) (l2 : n ≤ 4000) (hp : ∀ c ∈ cs, ¬ c < 0 ∧ ¬ (255 : Int32) < c) (hb : bs = cs.map (fun c => c.toInt8.toInt32)) (hfr : 4 ≤ R.frames) (hlo : W + 65 ≤ R.locals) :
    Back l R p e below s args (⟨"java/lang/String", "<init>", "([C)V"⟩ : MethodName) len W (fun P a => a = #[.ref x, .ref b] ∧ P.U.heap = h ∧ P.cells + 1 ≤ R.cells ∧ P.slots + n ≤ R.slots)
      (fun P _ v B => ∃ L, QV Z x N bs h n0 v B.U.heap L ∧ B.locs = P.locs ++ L ∧ B.cells = P.cells + 1 ∧ B.slots = P.slots + n) := by
  subst hn hN hb
  refine Back.mono (backArv hZ hw wi E V C K S hz (n32 (by omega)) l0 (by omega) (fun c hc => (hp c hc).2) hfr hlo) (fun P a hp => hp) (fun P a v B hp hq => ?_)
  obtain ⟨L, ⟨q1, q2, q3, q4, q5, q6, q7, ⟨kb, v1, v2⟩, q9⟩, hl, hc, hs⟩ := hq
  exact ⟨L, ⟨q1, fun y hy => by rw [q2 y hy]; exact hx0, q3, q5, q7, h.size, kb, hh0, Nat.le_refl _, Nat.ne_of_gt E.lt, q6, by rw [List.map_map]; exact v2⟩, hl, hc, hs⟩
end StrChars.Road
end Jvm.Pilot.@@N@@
namespace Jvm.Pilot.@@N@@
open Jvm Jvm.ClassFile Sem Op Lib Jvm.Free Jvm.Stand Jvm.LawKit Jvm.RoadKit Bundle Jvm.Pilot.@@N@@.Jvm.D
theorem own_go {tb : Tables} {e : Env} {below : List Frame} {A B : State} {P : State → Outcome → Prop} (st : ∀ t, Steps tb e below B t → Steps tb e below A t) (k : ∃ t o, Steps tb e below B t ∧ P t o) : ∃ t o, Steps tb e below A t ∧ P t o := by
  obtain ⟨t, o, h1, h2⟩ := k
  exact ⟨t, o, st t h1, h2⟩
theorem own_goT {tb : Tables} {e : Env} {below : List Frame} {A B : State} {P : State → Outcome → Prop} (st : Steps tb e below A B) (k : ∃ t o, Steps tb e below B t ∧ P t o) : ∃ t o, Steps tb e below A t ∧ P t o := by
  obtain ⟨t, o, h1, h2⟩ := k
  exact ⟨t, o, st.trans h1, h2⟩
theorem own_nfo {args : Array Value} {s : State} {C : String} {x y z : MethodName} (hsel : (Jvm.Cond.selects C x z).before args s = true) (e : z.cls = y.cls) : NotFace s y := fun r0 h0 => by
  obtain ⟨c2, r2, m2, q1, q2, q3, q4, kP, hkP, hkPi⟩ := Cond.selects_spec hsel
  have a1 := findClass_of_methodNamed q3
  have a2 := findClass_of_methodNamed h0
  rw [e] at a1
  have e2 := Option.some.inj (a1.symm.trans a2)
  exact ⟨kP, by rw [← e2]; exact hkP, hkPi⟩
theorem own_ifc {α : Type} {P R : Prop} [Decidable P] [Decidable R] (a b : α) (h : P ↔ R) : (if P then a else b) = (if R then a else b) := by
  by_cases q : P
  · rw [if_pos q, if_pos (h.mp q)]
  · rw [if_neg q, if_neg fun r => q (h.mpr r)]
theorem own_ne {a b : Nat} (h : a < b ∨ b < a) : a ≠ b := by omega
theorem own_keep_le {h h' : Heap} {ws : List Addr} (K : Keep h h' ws) : h.size ≤ h'.size := K.1
theorem own_and255 (x : Int32) : ¬ nar .char ((x &&& (255 : Int32)).toUInt32.toUInt16.toUInt32.toInt32) < 0 ∧ ¬ (255 : Int32) < nar .char ((x &&& (255 : Int32)).toUInt32.toUInt16.toUInt32.toInt32) := by
  have t : ∀ k : Fin 256, ¬ nar .char ((Int32.ofNat k.val).toUInt32.toUInt16.toUInt32.toInt32) < 0 ∧ ¬ (255 : Int32) < nar .char ((Int32.ofNat k.val).toUInt32.toUInt16.toUInt32.toInt32) := by decide +kernel
  have h : (x &&& 255).toBitVec.toNat < 256 := by
    simp only [Int32.toBitVec_and, BitVec.toNat_and]
    exact Nat.lt_succ_of_le Nat.and_le_right
  have e : (x &&& 255) = Int32.ofNat (x &&& 255).toBitVec.toNat := by
    apply Int32.toBitVec_inj.mp
    show _ = BitVec.ofNat 32 _
    rw [BitVec.ofNat_toNat]; simp
  rw [e]
  exact t ⟨_, h⟩
theorem own_up (cs : List Int32) (h : ∀ c ∈ cs, ¬ c < 0 ∧ ¬ (255 : Int32) < c) : ∀ c ∈ cs, ¬ c < 0 ∧ ¬ (65535 : Int32) < c := fun c hc => ⟨(h c hc).1, fun q => (h c hc).2 (by rw [Int32.lt_iff_toInt_lt] at q ⊢; have e1 : (65535 : Int32).toInt = 65535 := rfl; have e2 : (255 : Int32).toInt = 255 := rfl; omega)⟩
theorem own_all0 : ∀ c ∈ ([] : List Int32), ¬ c < 0 ∧ ¬ (255 : Int32) < c := fun _ q => nomatch q
theorem own_allS {x : Int32} {cs : List Int32} (q : ¬ x < 0 ∧ ¬ (255 : Int32) < x) (r : ∀ c ∈ cs, ¬ c < 0 ∧ ¬ (255 : Int32) < c) : ∀ c ∈ x :: cs, ¬ c < 0 ∧ ¬ (255 : Int32) < c := fun c z => (List.mem_cons.mp z).elim (fun u => u ▸ q) (r c)

def own_rg (c : Int32) : Prop := ¬ c < 0 ∧ ¬ (255 : Int32) < c
theorem own_fin {P : Int32 → Prop} (h : ∀ k : Fin 256, P (Int32.ofNat k.val)) {c : Int32} (r : own_rg c) : P c := by
  obtain ⟨r1, r2⟩ := r
  rw [Int32.lt_iff_toInt_lt] at r1 r2
  have e0 : (0 : Int32).toInt = 0 := rfl
  have e1 : (255 : Int32).toInt = 255 := rfl
  have e : c = Int32.ofNat c.toInt.toNat := by
    apply Int32.toInt_inj.mp
    rw [Int32.toInt_ofNat_small (by omega)]; omega
  rw [e]; exact h ⟨c.toInt.toNat, by omega⟩
theorem own_back {c : Int32} (r : own_rg c) : nar .char (((c.toInt8.toInt32) &&& (255 : Int32)).toUInt32.toUInt16.toUInt32.toInt32) = c := own_fin (P := fun c => nar .char (((c.toInt8.toInt32) &&& (255 : Int32)).toUInt32.toUInt16.toUInt32.toInt32) = c) (by decide +kernel) r
theorem own_narc {c : Int32} (r : own_rg c) : nar .char c = c := own_fin (P := fun c => nar .char c = c) (by decide +kernel) r

theorem ef_rmCoder (m : MethodId) (x0 : Nat) : entryFrame m #[(.ref x0)] 1 = mkF m 0 #[.val (.ref x0)] [] := by first | (simp [entryFrame, mkF, argsToLocals, Value.category]; done) | rfl
theorem d12_0 : decode jdk_42_method_152_code 0 = .ok (.getstatic 38, 3) := by decide +kernel
theorem d12_3 : decode jdk_42_method_152_code 3 = .ok (.ifCond .eq 10, 3) := by decide +kernel
theorem d12_6 : decode jdk_42_method_152_code 6 = .ok (.aload_n 0, 1) := by decide +kernel
theorem d12_7 : decode jdk_42_method_152_code 7 = .ok (.getfield 15, 3) := by decide +kernel
theorem d12_10 : decode jdk_42_method_152_code 10 = .ok (.goto 4, 3) := by decide +kernel
theorem d12_14 : decode jdk_42_method_152_code 14 = .ok (.ireturn, 1) := by decide +kernel
theorem pn_java_lang_String : plainName "java/lang/String" = true := by first | (simp [plainName, overriddenIn]; done) | decide +kernel
def Q_rmCoder (Z : State) (so : Nat) (zc : Int32) (h0 : Heap) (n0 : Nat) (v : Option Value) (h : Heap) (L : List Loc) : Prop := v = some (.int (0 : Int32)) ∧ Fr n0 L ∧ h = h0
set_option maxRecDepth 65536 in
set_option maxHeartbeats 40000000 in
theorem rmCoder (l : Launch) (Z : State) (a0 : Array Value) (hw : ∀ d ∈ tables_1, d.before a0 Z = true) (ws : List Jvm.Cond) (so : Nat) (zc : Int32) (h0 : Heap) (n0 : Nat) (Z0 : n0 ≤ h0.size) (P1 : Fld Z h0 so "java/lang/String" "coder" "B" (.int (0 : Int32))) (OLD : Old Z n0 h0) (P2 : Sta Z Z.heap "java/lang/String" "COMPACT_STRINGS" "Z" (.int zc)) (hzc : ¬ (zc = (0 : Int32))) :
    MetFree l (⟨"java/lang/String", "coder", "()B"⟩ : MethodName) (head1 (Jvm.Cond.code (⟨"java/lang/String", "coder", "()B"⟩ : MethodName) jdk_42_method_152_code 1 (some .byte) :: ws) ({ frames := 0, cells := 0, slots := 0, locals := 0 } : Room)) (fun a U => a = #[(.ref so)] ∧ Z.Warmed39 U.vm ∧ U.heap = h0) (fun _ _ _ _ _ => True) (fun _ U o U' => ∃ v L, o = .returned v ∧ Q_rmCoder Z so zc h0 n0 v U'.heap L ∧ FrameEnd U o U' L ({ frames := 0, cells := 0, slots := 0, locals := 0 } : Room).cells ({ frames := 0, cells := 0, slots := 0, locals := 0 } : Room).slots) := by
  refine MetFree.of_bodySF (plainFor_of_name pn_java_lang_String) hisR ?_
  intro p e s m args below meth c s₁ Bd hml0 hP hK
  obtain ⟨rfl, hZ, hh⟩ := hP
  have hx := Bd.exec
  have hby := Bd.bytes
  have hml : c.maxLocals = 1 := hml0
  have hown : s.vm.findClass "java/lang/String" = some m.cls := findClass_of_methodNamed Bd.named
  have hnm := (name_of_methodNamed Bd.named Bd.method).1
  have X0 : Stand p l e ({ frames := 0, cells := 0, slots := 0, locals := 0 } : Room) s m #[(.ref so)] below meth c s₁ [] 0 0 := Stand.of_body Bd
  have e0 : s₁.heap = h0 := by rw [← hh, Bd.state]; rfl
  have N0 := Fr.nil n0
  have pre0 : ∀ t, Steps p.tables e below (s₁.setTop (mkF m 0 #[.val (.ref so)] [])) t → Steps p.tables e below (s₁.setTop (entryFrame m #[(.ref so)] 1)) t := fun t k => castTop (ef_rmCoder m so) k
  have oz := OLD.1
  have lt_so : so < h0.size := P1.lt
  refine own_go (B := s₁.setTop (mkF m 0 #[.val (.ref so)] [])) pre0 ?_
  show ∃ t o, Steps p.tables e below (s₁.setTop (mkF m 0 #[.val (.ref so)] [])) t ∧ _
  obtain ⟨T3, X3, e3, st3⟩ := getS2 X0 hx hZ hown (host := "") (Or.inl (hw _ (List.mem_of_getElem? (i := 19) rfl))) Via.refl e0 (Sta.ext OLD.2 P2) (g := (mkF m 0 #[.val (.ref so)] [])) rfl (hb hby d12_0)
  refine own_go st3 ?_
  show ∃ t o, Steps p.tables e below (T3.setTop (mkF m 3 #[.val (.ref so)] [(.int zc)])) t ∧ _
  refine own_go (fun _ => XS.ifNo X3.here hx rfl (hb hby d12_3) rfl ((if0 _ _).trans (feq hzc).1)) ?_
  refine own_go (fun _ => XS.aloadN X3.here hx rfl (hb hby d12_6) rfl rfl) ?_
  obtain ⟨T4, X4, e4, st4⟩ := getF X3 hx hZ hown (host := "") (Or.inl (hw _ (List.mem_of_getElem? (i := 31) rfl))) Via.refl e3 P1 (g := (mkF m 7 #[.val (.ref so)] [(.ref so)])) rfl rfl (hb hby d12_7)
  refine own_go st4 ?_
  show ∃ t o, Steps p.tables e below (T4.setTop (mkF m 10 #[.val (.ref so)] [(.int (0 : Int32))])) t ∧ _
  refine own_go (fun _ => XS.goto X4.here hx rfl (pc0 := 10) (pc' := 14) rfl (hb hby d12_10) (by decide) (by decide)) ?_
  show ∃ t o, Steps p.tables e below (T4.setTop (mkF m 14 #[.val (.ref so)] [(.int (0 : Int32))])) t ∧ _
  obtain ⟨fs, hr, hrun, hended, hW, hsame⟩ := X4.leave (v := some (.int (0 : Int32))) (fun h => by rw [Bd.returns] at h; cases h)
  refine ⟨_, _, ?_, hrun, hended, _, _, rfl, ?_, ⟨_, rfl⟩, hW, hsame.mono (by decide) (by decide)⟩
  · exact retN X4 hx (t := .byte) Bd.returns (by simp) (hb hby d12_14) hr
  · show Q_rmCoder Z _ _ h0 n0 _ T4.heap _
    rw [e4]
    exact ⟨rfl, N0, rfl⟩
theorem ef_rmLat (m : MethodId) (x0 : Nat) : entryFrame m #[(.ref x0)] 1 = mkF m 0 #[.val (.ref x0)] [] := by first | (simp [entryFrame, mkF, argsToLocals, Value.category]; done) | rfl
theorem d14_0 : decode jdk_42_method_154_code 0 = .ok (.getstatic 38, 3) := by decide +kernel
theorem d14_3 : decode jdk_42_method_154_code 3 = .ok (.ifCond .eq 14, 3) := by decide +kernel
theorem d14_6 : decode jdk_42_method_154_code 6 = .ok (.aload_n 0, 1) := by decide +kernel
theorem d14_7 : decode jdk_42_method_154_code 7 = .ok (.getfield 15, 3) := by decide +kernel
theorem d14_10 : decode jdk_42_method_154_code 10 = .ok (.ifCond .ne 7, 3) := by decide +kernel
theorem d14_13 : decode jdk_42_method_154_code 13 = .ok (.iconst 1, 1) := by decide +kernel
theorem d14_14 : decode jdk_42_method_154_code 14 = .ok (.goto 4, 3) := by decide +kernel
theorem d14_18 : decode jdk_42_method_154_code 18 = .ok (.ireturn, 1) := by decide +kernel
def Q_rmLat (Z : State) (so : Nat) (zc : Int32) (h0 : Heap) (n0 : Nat) (v : Option Value) (h : Heap) (L : List Loc) : Prop := v = some (.int (1 : Int32)) ∧ Fr n0 L ∧ h = h0
set_option maxRecDepth 65536 in
set_option maxHeartbeats 40000000 in
theorem rmLat (l : Launch) (Z : State) (a0 : Array Value) (hw : ∀ d ∈ tables_1, d.before a0 Z = true) (ws : List Jvm.Cond) (so : Nat) (zc : Int32) (h0 : Heap) (n0 : Nat) (Z0 : n0 ≤ h0.size) (P1 : Fld Z h0 so "java/lang/String" "coder" "B" (.int (0 : Int32))) (OLD : Old Z n0 h0) (P2 : Sta Z Z.heap "java/lang/String" "COMPACT_STRINGS" "Z" (.int zc)) (hzc : ¬ (zc = (0 : Int32))) :
    MetFree l (⟨"java/lang/String", "isLatin1", "()Z"⟩ : MethodName) (head1 (Jvm.Cond.code (⟨"java/lang/String", "isLatin1", "()Z"⟩ : MethodName) jdk_42_method_154_code 1 (some .boolean) :: ws) ({ frames := 0, cells := 0, slots := 0, locals := 0 } : Room)) (fun a U => a = #[(.ref so)] ∧ Z.Warmed39 U.vm ∧ U.heap = h0) (fun _ _ _ _ _ => True) (fun _ U o U' => ∃ v L, o = .returned v ∧ Q_rmLat Z so zc h0 n0 v U'.heap L ∧ FrameEnd U o U' L ({ frames := 0, cells := 0, slots := 0, locals := 0 } : Room).cells ({ frames := 0, cells := 0, slots := 0, locals := 0 } : Room).slots) := by
  refine MetFree.of_bodySF (plainFor_of_name pn_java_lang_String) hisR ?_
  intro p e s m args below meth c s₁ Bd hml0 hP hK
  obtain ⟨rfl, hZ, hh⟩ := hP
  have hx := Bd.exec
  have hby := Bd.bytes
  have hml : c.maxLocals = 1 := hml0
  have hown : s.vm.findClass "java/lang/String" = some m.cls := findClass_of_methodNamed Bd.named
  have hnm := (name_of_methodNamed Bd.named Bd.method).1
  have X0 : Stand p l e ({ frames := 0, cells := 0, slots := 0, locals := 0 } : Room) s m #[(.ref so)] below meth c s₁ [] 0 0 := Stand.of_body Bd
  have e0 : s₁.heap = h0 := by rw [← hh, Bd.state]; rfl
  have N0 := Fr.nil n0
  have pre0 : ∀ t, Steps p.tables e below (s₁.setTop (mkF m 0 #[.val (.ref so)] [])) t → Steps p.tables e below (s₁.setTop (entryFrame m #[(.ref so)] 1)) t := fun t k => castTop (ef_rmLat m so) k
  have oz := OLD.1
  have lt_so : so < h0.size := P1.lt
  refine own_go (B := s₁.setTop (mkF m 0 #[.val (.ref so)] [])) pre0 ?_
  show ∃ t o, Steps p.tables e below (s₁.setTop (mkF m 0 #[.val (.ref so)] [])) t ∧ _
  obtain ⟨T3, X3, e3, st3⟩ := getS2 X0 hx hZ hown (host := "") (Or.inl (hw _ (List.mem_of_getElem? (i := 19) rfl))) Via.refl e0 (Sta.ext OLD.2 P2) (g := (mkF m 0 #[.val (.ref so)] [])) rfl (hb hby d14_0)
  refine own_go st3 ?_
  show ∃ t o, Steps p.tables e below (T3.setTop (mkF m 3 #[.val (.ref so)] [(.int zc)])) t ∧ _
  refine own_go (fun _ => XS.ifNo X3.here hx rfl (hb hby d14_3) rfl ((if0 _ _).trans (feq hzc).1)) ?_
  refine own_go (fun _ => XS.aloadN X3.here hx rfl (hb hby d14_6) rfl rfl) ?_
  obtain ⟨T4, X4, e4, st4⟩ := getF X3 hx hZ hown (host := "") (Or.inl (hw _ (List.mem_of_getElem? (i := 31) rfl))) Via.refl e3 P1 (g := (mkF m 7 #[.val (.ref so)] [(.ref so)])) rfl rfl (hb hby d14_7)
  refine own_go st4 ?_
  show ∃ t o, Steps p.tables e below (T4.setTop (mkF m 10 #[.val (.ref so)] [(.int (0 : Int32))])) t ∧ _
  refine own_go (fun _ => XS.ifNo X4.here hx rfl (hb hby d14_10) rfl ((if0 _ _).trans (teq (by decide : (0 : Int32) = (0 : Int32))).2)) ?_
  refine own_go (fun _ => XS.iconst X4.here hx rfl (hb hby d14_13)) ?_
  refine own_go (fun _ => XS.goto X4.here hx rfl (pc0 := 14) (pc' := 18) rfl (hb hby d14_14) (by decide) (by decide)) ?_
  show ∃ t o, Steps p.tables e below (T4.setTop (mkF m 18 #[.val (.ref so)] [(.int (1 : Int32))])) t ∧ _
  obtain ⟨fs, hr, hrun, hended, hW, hsame⟩ := X4.leave (v := some (.int (1 : Int32))) (fun h => by rw [Bd.returns] at h; cases h)
  refine ⟨_, _, ?_, hrun, hended, _, _, rfl, ?_, ⟨_, rfl⟩, hW, hsame.mono (by decide) (by decide)⟩
  · exact retN X4 hx (t := .boolean) Bd.returns (by simp) (hb hby d14_18) hr
  · show Q_rmLat Z _ _ h0 n0 _ T4.heap _
    rw [e4]
    exact ⟨rfl, N0, rfl⟩
theorem ef_rmPcN (m : MethodId) (x0 : Int32) (x1 : Int32) : entryFrame m #[(.int x0), (.int x1), .null] 3 = mkF m 0 #[.val (.int x0), .val (.int x1), .val .null] [] := by first | (simp [entryFrame, mkF, argsToLocals, Value.category]; done) | rfl
theorem d17_0 : decode jdk_41_method_11_code 0 = .ok (.iload_n 0, 1) := by decide +kernel
theorem d17_1 : decode jdk_41_method_11_code 1 = .ok (.ifCond .lt 8, 3) := by decide +kernel
theorem d17_4 : decode jdk_41_method_11_code 4 = .ok (.iload_n 0, 1) := by decide +kernel
theorem d17_5 : decode jdk_41_method_11_code 5 = .ok (.iload_n 1, 1) := by decide +kernel
theorem d17_6 : decode jdk_41_method_11_code 6 = .ok (.if_icmp .lt 10, 3) := by decide +kernel
theorem d17_16 : decode jdk_41_method_11_code 16 = .ok (.iload_n 0, 1) := by decide +kernel
theorem d17_17 : decode jdk_41_method_11_code 17 = .ok (.ireturn, 1) := by decide +kernel
theorem pn_jdk_internal_util_Preconditions : plainName "jdk/internal/util/Preconditions" = true := by first | (simp [plainName, overriddenIn]; done) | decide +kernel
def Q_rmPcN (Z : State) (xi : Int32) (xn : Int32) (h0 : Heap) (n0 : Nat) (v : Option Value) (h : Heap) (L : List Loc) : Prop := v = some (.int xi) ∧ Fr n0 L ∧ h = h0
set_option maxRecDepth 65536 in
set_option maxHeartbeats 40000000 in
theorem rmPcN (l : Launch) (Z : State) (a0 : Array Value) (hw : ∀ d ∈ tables_1, d.before a0 Z = true) (ws : List Jvm.Cond) (xi : Int32) (xn : Int32) (h0 : Heap) (n0 : Nat) (Z0 : n0 ≤ h0.size) (OLD : Old Z n0 h0) (q0 : ¬ (xi < (0 : Int32))) (q1 : xi < xn) :
    MetFree l (⟨"jdk/internal/util/Preconditions", "checkIndex", "(IILjava/util/function/BiFunction;)I"⟩ : MethodName) (head1 (Jvm.Cond.code (⟨"jdk/internal/util/Preconditions", "checkIndex", "(IILjava/util/function/BiFunction;)I"⟩ : MethodName) jdk_41_method_11_code 3 (some .int) :: ws) ({ frames := 0, cells := 0, slots := 0, locals := 0 } : Room)) (fun a U => a = #[(.int xi), (.int xn), .null] ∧ Z.Warmed39 U.vm ∧ U.heap = h0) (fun _ _ _ _ _ => True) (fun _ U o U' => ∃ v L, o = .returned v ∧ Q_rmPcN Z xi xn h0 n0 v U'.heap L ∧ FrameEnd U o U' L ({ frames := 0, cells := 0, slots := 0, locals := 0 } : Room).cells ({ frames := 0, cells := 0, slots := 0, locals := 0 } : Room).slots) := by
  refine MetFree.of_bodySF (plainFor_of_name pn_jdk_internal_util_Preconditions) hisR ?_
  intro p e s m args below meth c s₁ Bd hml0 hP hK
  obtain ⟨rfl, hZ, hh⟩ := hP
  have hx := Bd.exec
  have hby := Bd.bytes
  have hml : c.maxLocals = 3 := hml0
  have hown : s.vm.findClass "jdk/internal/util/Preconditions" = some m.cls := findClass_of_methodNamed Bd.named
  have hnm := (name_of_methodNamed Bd.named Bd.method).1
  have X0 : Stand p l e ({ frames := 0, cells := 0, slots := 0, locals := 0 } : Room) s m #[(.int xi), (.int xn), .null] below meth c s₁ [] 0 0 := Stand.of_body Bd
  have e0 : s₁.heap = h0 := by rw [← hh, Bd.state]; rfl
  have N0 := Fr.nil n0
  have pre0 : ∀ t, Steps p.tables e below (s₁.setTop (mkF m 0 #[.val (.int xi), .val (.int xn), .val .null] [])) t → Steps p.tables e below (s₁.setTop (entryFrame m #[(.int xi), (.int xn), .null] 3)) t := fun t k => castTop (ef_rmPcN m xi xn) k
  have oz := OLD.1
  refine own_go (B := s₁.setTop (mkF m 0 #[.val (.int xi), .val (.int xn), .val .null] [])) pre0 ?_
  show ∃ t o, Steps p.tables e below (s₁.setTop (mkF m 0 #[.val (.int xi), .val (.int xn), .val .null] [])) t ∧ _
  refine own_go (fun _ => XS.iloadN X0.here hx rfl (hb hby d17_0) rfl) ?_
  show ∃ t o, Steps p.tables e below (s₁.setTop (mkF m 1 #[.val (.int xi), .val (.int xn), .val .null] [(.int xi)])) t ∧ _
  refine own_go (fun _ => XS.ifNo X0.here hx rfl (hb hby d17_1) rfl ((if0 _ _).trans (flt q0).1)) ?_
  refine own_go (fun _ => XS.iloadN X0.here hx rfl (hb hby d17_4) rfl) ?_
  refine own_go (fun _ => XS.iloadN X0.here hx rfl (hb hby d17_5) rfl) ?_
  show ∃ t o, Steps p.tables e below (s₁.setTop (mkF m 6 #[.val (.int xi), .val (.int xn), .val .null] [(.int xn), (.int xi)])) t ∧ _
  refine own_go (fun _ => XS.icmpYes X0.here hx rfl (pc0 := 6) (pc' := 16) rfl (hb hby d17_6) rfl (tlt q1).1 (by decide) (by decide)) ?_
  refine own_go (fun _ => XS.iloadN X0.here hx rfl (hb hby d17_16) rfl) ?_
  show ∃ t o, Steps p.tables e below (s₁.setTop (mkF m 17 #[.val (.int xi), .val (.int xn), .val .null] [(.int xi)])) t ∧ _
  obtain ⟨fs, hr, hrun, hended, hW, hsame⟩ := X0.leave (v := some (.int xi)) (fun h => by rw [Bd.returns] at h; cases h)
  refine ⟨_, _, ?_, hrun, hended, _, _, rfl, ?_, ⟨_, rfl⟩, hW, hsame.mono (by decide) (by decide)⟩
  · exact retI X0 hx Bd.returns (hb hby d17_17) hr
  · show Q_rmPcN Z _ _ h0 n0 _ s₁.heap _
    rw [e0]
    exact ⟨rfl, N0, rfl⟩
theorem ef_rmPcR (m : MethodId) (x0 : Int32) (x1 : Int32) (x2 : Nat) : entryFrame m #[(.int x0), (.int x1), (.ref x2)] 3 = mkF m 0 #[.val (.int x0), .val (.int x1), .val (.ref x2)] [] := by first | (simp [entryFrame, mkF, argsToLocals, Value.category]; done) | rfl
def Q_rmPcR (Z : State) (xi : Int32) (xn : Int32) (ga : Nat) (h0 : Heap) (n0 : Nat) (v : Option Value) (h : Heap) (L : List Loc) : Prop := v = some (.int xi) ∧ Fr n0 L ∧ h = h0
set_option maxRecDepth 65536 in
set_option maxHeartbeats 40000000 in
theorem rmPcR (l : Launch) (Z : State) (a0 : Array Value) (hw : ∀ d ∈ tables_1, d.before a0 Z = true) (ws : List Jvm.Cond) (xi : Int32) (xn : Int32) (ga : Nat) (h0 : Heap) (n0 : Nat) (Z0 : n0 ≤ h0.size) (OLD : Old Z n0 h0) (q0 : ¬ (xi < (0 : Int32))) (q1 : xi < xn) :
    MetFree l (⟨"jdk/internal/util/Preconditions", "checkIndex", "(IILjava/util/function/BiFunction;)I"⟩ : MethodName) (head1 (Jvm.Cond.code (⟨"jdk/internal/util/Preconditions", "checkIndex", "(IILjava/util/function/BiFunction;)I"⟩ : MethodName) jdk_41_method_11_code 3 (some .int) :: ws) ({ frames := 0, cells := 0, slots := 0, locals := 0 } : Room)) (fun a U => a = #[(.int xi), (.int xn), (.ref ga)] ∧ Z.Warmed39 U.vm ∧ U.heap = h0) (fun _ _ _ _ _ => True) (fun _ U o U' => ∃ v L, o = .returned v ∧ Q_rmPcR Z xi xn ga h0 n0 v U'.heap L ∧ FrameEnd U o U' L ({ frames := 0, cells := 0, slots := 0, locals := 0 } : Room).cells ({ frames := 0, cells := 0, slots := 0, locals := 0 } : Room).slots) := by
  refine MetFree.of_bodySF (plainFor_of_name pn_jdk_internal_util_Preconditions) hisR ?_
  intro p e s m args below meth c s₁ Bd hml0 hP hK
  obtain ⟨rfl, hZ, hh⟩ := hP
  have hx := Bd.exec
  have hby := Bd.bytes
  have hml : c.maxLocals = 3 := hml0
  have hown : s.vm.findClass "jdk/internal/util/Preconditions" = some m.cls := findClass_of_methodNamed Bd.named
  have hnm := (name_of_methodNamed Bd.named Bd.method).1
  have X0 : Stand p l e ({ frames := 0, cells := 0, slots := 0, locals := 0 } : Room) s m #[(.int xi), (.int xn), (.ref ga)] below meth c s₁ [] 0 0 := Stand.of_body Bd
  have e0 : s₁.heap = h0 := by rw [← hh, Bd.state]; rfl
  have N0 := Fr.nil n0
  have pre0 : ∀ t, Steps p.tables e below (s₁.setTop (mkF m 0 #[.val (.int xi), .val (.int xn), .val (.ref ga)] [])) t → Steps p.tables e below (s₁.setTop (entryFrame m #[(.int xi), (.int xn), (.ref ga)] 3)) t := fun t k => castTop (ef_rmPcR m xi xn ga) k
  have oz := OLD.1
  refine own_go (B := s₁.setTop (mkF m 0 #[.val (.int xi), .val (.int xn), .val (.ref ga)] [])) pre0 ?_
  show ∃ t o, Steps p.tables e below (s₁.setTop (mkF m 0 #[.val (.int xi), .val (.int xn), .val (.ref ga)] [])) t ∧ _
  refine own_go (fun _ => XS.iloadN X0.here hx rfl (hb hby d17_0) rfl) ?_
  show ∃ t o, Steps p.tables e below (s₁.setTop (mkF m 1 #[.val (.int xi), .val (.int xn), .val (.ref ga)] [(.int xi)])) t ∧ _
  refine own_go (fun _ => XS.ifNo X0.here hx rfl (hb hby d17_1) rfl ((if0 _ _).trans (flt q0).1)) ?_
  refine own_go (fun _ => XS.iloadN X0.here hx rfl (hb hby d17_4) rfl) ?_
  refine own_go (fun _ => XS.iloadN X0.here hx rfl (hb hby d17_5) rfl) ?_
  show ∃ t o, Steps p.tables e below (s₁.setTop (mkF m 6 #[.val (.int xi), .val (.int xn), .val (.ref ga)] [(.int xn), (.int xi)])) t ∧ _
  refine own_go (fun _ => XS.icmpYes X0.here hx rfl (pc0 := 6) (pc' := 16) rfl (hb hby d17_6) rfl (tlt q1).1 (by decide) (by decide)) ?_
  refine own_go (fun _ => XS.iloadN X0.here hx rfl (hb hby d17_16) rfl) ?_
  show ∃ t o, Steps p.tables e below (s₁.setTop (mkF m 17 #[.val (.int xi), .val (.int xn), .val (.ref ga)] [(.int xi)])) t ∧ _
  obtain ⟨fs, hr, hrun, hended, hW, hsame⟩ := X0.leave (v := some (.int xi)) (fun h => by rw [Bd.returns] at h; cases h)
  refine ⟨_, _, ?_, hrun, hended, _, _, rfl, ?_, ⟨_, rfl⟩, hW, hsame.mono (by decide) (by decide)⟩
  · exact retI X0 hx Bd.returns (hb hby d17_17) hr
  · show Q_rmPcR Z _ _ _ h0 n0 _ s₁.heap _
    rw [e0]
    exact ⟨rfl, N0, rfl⟩
theorem ef_rmCi (m : MethodId) (x0 : Int32) (x1 : Int32) : entryFrame m #[(.int x0), (.int x1)] 2 = mkF m 0 #[.val (.int x0), .val (.int x1)] [] := by first | (simp [entryFrame, mkF, argsToLocals, Value.category]; done) | rfl
theorem d16_0 : decode jdk_42_method_155_code 0 = .ok (.iload_n 0, 1) := by decide +kernel
theorem d16_1 : decode jdk_42_method_155_code 1 = .ok (.iload_n 1, 1) := by decide +kernel
theorem d16_2 : decode jdk_42_method_155_code 2 = .ok (.getstatic 1053, 3) := by decide +kernel
theorem d16_5 : decode jdk_42_method_155_code 5 = .ok (.invokestatic 1059, 3) := by decide +kernel
theorem pd__28IILjava_2futil_2ffunction_2fBiFunction_3b_29I : parseMethodDescriptor "(IILjava/util/function/BiFunction;)I" = some ⟨[.int, .int, (.object "java/util/function/BiFunction")], some .int⟩ := by decide +kernel
theorem d16_8 : decode jdk_42_method_155_code 8 = .ok (.pop, 1) := by decide +kernel
theorem d16_9 : decode jdk_42_method_155_code 9 = .ok (.return_, 1) := by decide +kernel
def Q_rmCi (Z : State) (xi : Int32) (xn : Int32) (gv : Value) (h0 : Heap) (n0 : Nat) (v : Option Value) (h : Heap) (L : List Loc) : Prop := v = none ∧ Fr n0 L ∧ h = h0
set_option maxRecDepth 65536 in
set_option maxHeartbeats 40000000 in
theorem rmCi (l : Launch) (Z : State) (a0 : Array Value) (hw : ∀ d ∈ tables_1, d.before a0 Z = true) (ws : List Jvm.Cond) (xi : Int32) (xn : Int32) (gv : Value) (h0 : Heap) (n0 : Nat) (Z0 : n0 ≤ h0.size) (OLD : Old Z n0 h0) (P1 : Sta Z Z.heap "jdk/internal/util/Preconditions" "SIOOBE_FORMATTER" "Ljava/util/function/BiFunction;" gv) (hgv : gv.isRef = true) (q0 : ¬ (xi < (0 : Int32))) (q1 : xi < xn) :
    MetFree l (⟨"java/lang/String", "checkIndex", "(II)V"⟩ : MethodName) (head1 (Jvm.Cond.code (⟨"java/lang/String", "checkIndex", "(II)V"⟩ : MethodName) jdk_42_method_155_code 2 none :: ws) ({ frames := 1, cells := 0, slots := 0, locals := 14 } : Room)) (fun a U => a = #[(.int xi), (.int xn)] ∧ Z.Warmed39 U.vm ∧ U.heap = h0) (fun _ _ _ _ _ => True) (fun _ U o U' => ∃ v L, o = .returned v ∧ Q_rmCi Z xi xn gv h0 n0 v U'.heap L ∧ FrameEnd U o U' L ({ frames := 1, cells := 0, slots := 0, locals := 14 } : Room).cells ({ frames := 1, cells := 0, slots := 0, locals := 14 } : Room).slots) := by
  refine MetFree.of_bodySF (plainFor_of_name pn_java_lang_String) hisR ?_
  intro p e s m args below meth c s₁ Bd hml0 hP hK
  obtain ⟨rfl, hZ, hh⟩ := hP
  have hx := Bd.exec
  have hby := Bd.bytes
  have hml : c.maxLocals = 2 := hml0
  have hown : s.vm.findClass "java/lang/String" = some m.cls := findClass_of_methodNamed Bd.named
  have hnm := (name_of_methodNamed Bd.named Bd.method).1
  have X0 : Stand p l e ({ frames := 1, cells := 0, slots := 0, locals := 14 } : Room) s m #[(.int xi), (.int xn)] below meth c s₁ [] 0 0 := Stand.of_body Bd
  have e0 : s₁.heap = h0 := by rw [← hh, Bd.state]; rfl
  have N0 := Fr.nil n0
  have pre0 : ∀ t, Steps p.tables e below (s₁.setTop (mkF m 0 #[.val (.int xi), .val (.int xn)] [])) t → Steps p.tables e below (s₁.setTop (entryFrame m #[(.int xi), (.int xn)] 2)) t := fun t k => castTop (ef_rmCi m xi xn) k
  have oz := OLD.1
  refine own_go (B := s₁.setTop (mkF m 0 #[.val (.int xi), .val (.int xn)] [])) pre0 ?_
  show ∃ t o, Steps p.tables e below (s₁.setTop (mkF m 0 #[.val (.int xi), .val (.int xn)] [])) t ∧ _
  rcases ref_cases hgv with hg0 | ⟨ga, hg0⟩
  · subst hg0
    show ∃ t o, Steps p.tables e below (s₁.setTop (mkF m 0 #[.val (.int xi), .val (.int xn)] [])) t ∧ _
    refine own_go (fun _ => XS.iloadN X0.here hx rfl (hb hby d16_0) rfl) ?_
    refine own_go (fun _ => XS.iloadN X0.here hx rfl (hb hby d16_1) rfl) ?_
    obtain ⟨T2, X2, e2, st2⟩ := getS2 X0 hx hZ hown (host := "") (Or.inl (hw _ (List.mem_of_getElem? (i := 78) rfl))) Via.refl e0 (Sta.ext OLD.2 P1) (g := (mkF m 2 #[.val (.int xi), .val (.int xn)] [(.int xn), (.int xi)])) rfl (hb hby d16_2)
    refine own_go st2 ?_
    show ∃ t o, Steps p.tables e below (T2.setTop (mkF m 5 #[.val (.int xi), .val (.int xn)] [.null, (.int xn), (.int xi)])) t ∧ _
    obtain ⟨_, _, ⟨T3, L3, k3, n3⟩, -, X3, ⟨Lc3, hQ3, l3, y3, z3⟩, st3⟩ := Jvm.LawKit.callS X2 hx (y := (⟨"jdk/internal/util/Preconditions", "checkIndex", "(IILjava/util/function/BiFunction;)I"⟩ : MethodName)) hown (mvT hZ (hw _ (List.mem_of_getElem? (i := 80) rfl))) (mvT hZ (hw _ (List.mem_of_getElem? (i := 81) rfl))) (mvT hZ (hw _ (List.mem_of_getElem? (i := 79) rfl))) (mvT hZ (hw _ (List.mem_of_getElem? (i := 82) rfl))) (by decide) (backOf (W := 0) (rmPcN l Z a0 hw [] xi xn h0 n0 Z0 OLD q0 q1) hZ (hw _ (List.mem_of_getElem? (i := 82) rfl)) (hw _ (List.mem_of_getElem? (i := 79) rfl)) (by decide) (by decide)) (g := (mkF m 5 #[.val (.int xi), .val (.int xn)] [.null, (.int xn), (.int xi)])) rfl (by rw [hml]; rfl) (argsL := [(.int xi), (.int xn), .null]) (rest := []) (lenOf pd__28IILjava_2futil_2ffunction_2fBiFunction_3b_29I rfl) rfl (by show 2 * 0 + _ ≤ _; exact Nat.le_of_eq rfl) (hb hby d16_5) (fun _ _ => ⟨rfl, e2, (by decide : 0 + 0 ≤ _), (by decide : 0 + 0 ≤ _)⟩)
    dsimp only [Pt.U, Pt.locs, Pt.cells, Pt.slots] at X3 l3 y3 z3 st3 hQ3
    subst l3 y3 z3
    obtain ⟨rfl, Nq3, e3⟩ := hQ3
    have N3 := Fr.app N0 Nq3
    refine own_go st3 ?_
    refine own_go (fun _ => XS.pop X3.here hx rfl (hb hby d16_8) rfl rfl) ?_
    show ∃ t o, Steps p.tables e below (T3.setTop (mkF m 9 #[.val (.int xi), .val (.int xn)] [])) t ∧ _
    obtain ⟨fs, hr, hrun, hended, hW, hsame⟩ := X3.leave (v := none) (fun _ => rfl)
    refine ⟨_, _, ?_, hrun, hended, _, _, rfl, ?_, ⟨_, rfl⟩, hW, hsame.mono (by decide) (by decide)⟩
    · exact X3.returnOut hx Bd.returns (hb hby d16_9) hr
    · show Q_rmCi Z _ _ _ h0 n0 _ T3.heap _
      rw [e3]
      exact ⟨rfl, N3, rfl⟩
  · subst hg0
    show ∃ t o, Steps p.tables e below (s₁.setTop (mkF m 0 #[.val (.int xi), .val (.int xn)] [])) t ∧ _
    refine own_go (fun _ => XS.iloadN X0.here hx rfl (hb hby d16_0) rfl) ?_
    refine own_go (fun _ => XS.iloadN X0.here hx rfl (hb hby d16_1) rfl) ?_
    obtain ⟨T4, X4, e4, st4⟩ := getS2 X0 hx hZ hown (host := "") (Or.inl (hw _ (List.mem_of_getElem? (i := 78) rfl))) Via.refl e0 (Sta.ext OLD.2 P1) (g := (mkF m 2 #[.val (.int xi), .val (.int xn)] [(.int xn), (.int xi)])) rfl (hb hby d16_2)
    refine own_go st4 ?_
    show ∃ t o, Steps p.tables e below (T4.setTop (mkF m 5 #[.val (.int xi), .val (.int xn)] [(.ref ga), (.int xn), (.int xi)])) t ∧ _
    obtain ⟨_, _, ⟨T5, L5, k5, n5⟩, -, X5, ⟨Lc5, hQ5, l5, y5, z5⟩, st5⟩ := Jvm.LawKit.callS X4 hx (y := (⟨"jdk/internal/util/Preconditions", "checkIndex", "(IILjava/util/function/BiFunction;)I"⟩ : MethodName)) hown (mvT hZ (hw _ (List.mem_of_getElem? (i := 80) rfl))) (mvT hZ (hw _ (List.mem_of_getElem? (i := 81) rfl))) (mvT hZ (hw _ (List.mem_of_getElem? (i := 79) rfl))) (mvT hZ (hw _ (List.mem_of_getElem? (i := 82) rfl))) (by decide) (backOf (W := 0) (rmPcR l Z a0 hw [] xi xn ga h0 n0 Z0 OLD q0 q1) hZ (hw _ (List.mem_of_getElem? (i := 82) rfl)) (hw _ (List.mem_of_getElem? (i := 79) rfl)) (by decide) (by decide)) (g := (mkF m 5 #[.val (.int xi), .val (.int xn)] [(.ref ga), (.int xn), (.int xi)])) rfl (by rw [hml]; rfl) (argsL := [(.int xi), (.int xn), (.ref ga)]) (rest := []) (lenOf pd__28IILjava_2futil_2ffunction_2fBiFunction_3b_29I rfl) rfl (by show 2 * 0 + _ ≤ _; exact Nat.le_of_eq rfl) (hb hby d16_5) (fun _ _ => ⟨rfl, e4, (by decide : 0 + 0 ≤ _), (by decide : 0 + 0 ≤ _)⟩)
    dsimp only [Pt.U, Pt.locs, Pt.cells, Pt.slots] at X5 l5 y5 z5 st5 hQ5
    subst l5 y5 z5
    obtain ⟨rfl, Nq5, e5⟩ := hQ5
    have N5 := Fr.app N0 Nq5
    refine own_go st5 ?_
    refine own_go (fun _ => XS.pop X5.here hx rfl (hb hby d16_8) rfl rfl) ?_
    show ∃ t o, Steps p.tables e below (T5.setTop (mkF m 9 #[.val (.int xi), .val (.int xn)] [])) t ∧ _
    obtain ⟨fs, hr, hrun, hended, hW, hsame⟩ := X5.leave (v := none) (fun _ => rfl)
    refine ⟨_, _, ?_, hrun, hended, _, _, rfl, ?_, ⟨_, rfl⟩, hW, hsame.mono (by decide) (by decide)⟩
    · exact X5.returnOut hx Bd.returns (hb hby d16_9) hr
    · show Q_rmCi Z _ _ _ h0 n0 _ T5.heap _
      rw [e5]
      exact ⟨rfl, N5, rfl⟩
def own_ok (c : Int32) : Prop := (65 ≤ c.toInt ∧ c.toInt ≤ 90) ∨ (97 ≤ c.toInt ∧ c.toInt ≤ 122) ∨ (48 ≤ c.toInt ∧ c.toInt ≤ 57) ∨ c.toInt = 46 ∨ c.toInt = 95 ∨ c.toInt = 45
theorem own_okrg {c : Int32} (h : own_ok c) : own_rg c := by
  unfold own_ok at h; unfold own_rg
  rw [Int32.lt_iff_toInt_lt, Int32.lt_iff_toInt_lt]
  have e0 : (0 : Int32).toInt = 0 := rfl
  have e1 : (255 : Int32).toInt = 255 := rfl
  omega
theorem own_okn {c : Int32} (h : own_ok c) : own_ok (nar .char c) := by rw [own_narc (own_okrg h)]; exact h
theorem own_65 (x : Int32) : 0 ≤ ((x &&& (2147483647 : Int32)) % (65 : Int32)).toInt ∧ ((x &&& (2147483647 : Int32)) % (65 : Int32)).toInt < 65 := by
  have c1 := c_and x 2147483647 (by decide)
  have c2 := (c_irem (x &&& 2147483647) 65 65 rfl).1 c1.1
  rw [c2]; omega
theorem own_i2c {c : Int32} (h1 : 0 ≤ c.toInt) (h2 : c.toInt < 65536) : (c.toUInt32.toUInt16.toUInt32.toInt32).toInt = c.toInt := by
  have := c_i2c c; omega
theorem own_i2cn {c : Int32} (h1 : 0 ≤ c.toInt) (h2 : c.toInt < 65536) : (nar .char (c.toUInt32.toUInt16.toUInt32.toInt32)).toInt = c.toInt := by
  show ((c.toUInt32.toUInt16.toUInt32.toInt32).toUInt32.toUInt16.toUInt32.toInt32).toInt = _
  have e := own_i2c h1 h2
  rw [own_i2c (by omega) (by omega), e]
theorem own_al (b : Int32) (k : Int32) (B K : Int) (hb : b.toInt = B) (hk : k.toInt = K) (h0 : 0 ≤ B) (h1 : B ≤ 200) (k0 : 0 ≤ K) (k1 : K < 30) : (nar .char ((b + k).toUInt32.toUInt16.toUInt32.toInt32)).toInt = B + K := by
  have c := c_iadd b k
  have r := rng32 (b + k)
  rw [hb, hk] at c
  have s : (b + k).toInt = B + K := by omega
  rw [own_i2cn (by omega) (by omega), s]
theorem own_sub (a b : Int32) (A B : Int) (ha : a.toInt = A) (hb : b.toInt = B) (h : 0 ≤ A - B) (h2 : A < 100) (h3 : 0 ≤ B) : (a - b).toInt = A - B := by
  have c := c_isub a b
  have r := rng32 (a - b)
  rw [ha, hb] at c; omega

theorem ef_rmAl (m : MethodId) (x0 : Int32) : entryFrame m #[(.int x0)] 2 = mkF m 0 #[.val (.int x0), .unset] [] := by first | (simp [entryFrame, mkF, argsToLocals, Value.category]; done) | rfl
theorem d1_0 : decode method_2_code 0 = .ok (.iload_n 0, 1) := by decide +kernel
theorem d1_1 : decode method_2_code 1 = .ok (.ldc 7, 2) := by decide +kernel
theorem d1_3 : decode method_2_code 3 = .ok (.iand, 1) := by decide +kernel
theorem d1_4 : decode method_2_code 4 = .ok (.bipush 65, 2) := by decide +kernel
theorem d1_6 : decode method_2_code 6 = .ok (.irem, 1) := by decide +kernel
theorem d1_7 : decode method_2_code 7 = .ok (.istore_n 1, 1) := by decide +kernel
theorem d1_8 : decode method_2_code 8 = .ok (.iload_n 1, 1) := by decide +kernel
theorem d1_9 : decode method_2_code 9 = .ok (.bipush 26, 2) := by decide +kernel
theorem d1_11 : decode method_2_code 11 = .ok (.if_icmp .ge 9, 3) := by decide +kernel
theorem d1_14 : decode method_2_code 14 = .ok (.bipush 65, 2) := by decide +kernel
theorem d1_16 : decode method_2_code 16 = .ok (.iload_n 1, 1) := by decide +kernel
theorem d1_17 : decode method_2_code 17 = .ok (.iadd, 1) := by decide +kernel
theorem d1_18 : decode method_2_code 18 = .ok (.i2c, 1) := by decide +kernel
theorem d1_19 : decode method_2_code 19 = .ok (.ireturn, 1) := by decide +kernel
theorem d1_20 : decode method_2_code 20 = .ok (.iload_n 1, 1) := by decide +kernel
theorem d1_21 : decode method_2_code 21 = .ok (.bipush 26, 2) := by decide +kernel
theorem d1_23 : decode method_2_code 23 = .ok (.isub, 1) := by decide +kernel
theorem d1_24 : decode method_2_code 24 = .ok (.istore_n 1, 1) := by decide +kernel
theorem d1_25 : decode method_2_code 25 = .ok (.iload_n 1, 1) := by decide +kernel
theorem d1_26 : decode method_2_code 26 = .ok (.bipush 26, 2) := by decide +kernel
theorem d1_28 : decode method_2_code 28 = .ok (.if_icmp .ge 9, 3) := by decide +kernel
theorem d1_31 : decode method_2_code 31 = .ok (.bipush 97, 2) := by decide +kernel
theorem d1_33 : decode method_2_code 33 = .ok (.iload_n 1, 1) := by decide +kernel
theorem d1_34 : decode method_2_code 34 = .ok (.iadd, 1) := by decide +kernel
theorem d1_35 : decode method_2_code 35 = .ok (.i2c, 1) := by decide +kernel
theorem d1_36 : decode method_2_code 36 = .ok (.ireturn, 1) := by decide +kernel
theorem d1_37 : decode method_2_code 37 = .ok (.iload_n 1, 1) := by decide +kernel
theorem d1_38 : decode method_2_code 38 = .ok (.bipush 26, 2) := by decide +kernel
theorem d1_40 : decode method_2_code 40 = .ok (.isub, 1) := by decide +kernel
theorem d1_41 : decode method_2_code 41 = .ok (.istore_n 1, 1) := by decide +kernel
theorem d1_42 : decode method_2_code 42 = .ok (.iload_n 1, 1) := by decide +kernel
theorem d1_43 : decode method_2_code 43 = .ok (.bipush 10, 2) := by decide +kernel
theorem d1_45 : decode method_2_code 45 = .ok (.if_icmp .ge 9, 3) := by decide +kernel
theorem d1_48 : decode method_2_code 48 = .ok (.bipush 48, 2) := by decide +kernel
theorem d1_50 : decode method_2_code 50 = .ok (.iload_n 1, 1) := by decide +kernel
theorem d1_51 : decode method_2_code 51 = .ok (.iadd, 1) := by decide +kernel
theorem d1_52 : decode method_2_code 52 = .ok (.i2c, 1) := by decide +kernel
theorem d1_53 : decode method_2_code 53 = .ok (.ireturn, 1) := by decide +kernel
theorem d1_54 : decode method_2_code 54 = .ok (.iload_n 1, 1) := by decide +kernel
theorem d1_55 : decode method_2_code 55 = .ok (.bipush 10, 2) := by decide +kernel
theorem d1_57 : decode method_2_code 57 = .ok (.isub, 1) := by decide +kernel
theorem d1_58 : decode method_2_code 58 = .ok (.istore_n 1, 1) := by decide +kernel
theorem d1_59 : decode method_2_code 59 = .ok (.iload_n 1, 1) := by decide +kernel
theorem d1_60 : decode method_2_code 60 = .ok (.ifCond .ne 6, 3) := by decide +kernel
theorem d1_63 : decode method_2_code 63 = .ok (.bipush 46, 2) := by decide +kernel
theorem d1_65 : decode method_2_code 65 = .ok (.ireturn, 1) := by decide +kernel
theorem d1_66 : decode method_2_code 66 = .ok (.iload_n 1, 1) := by decide +kernel
theorem d1_67 : decode method_2_code 67 = .ok (.iconst 1, 1) := by decide +kernel
theorem d1_68 : decode method_2_code 68 = .ok (.if_icmp .ne 6, 3) := by decide +kernel
theorem d1_71 : decode method_2_code 71 = .ok (.bipush 95, 2) := by decide +kernel
theorem d1_73 : decode method_2_code 73 = .ok (.ireturn, 1) := by decide +kernel
theorem d1_74 : decode method_2_code 74 = .ok (.bipush 45, 2) := by decide +kernel
theorem d1_76 : decode method_2_code 76 = .ok (.ireturn, 1) := by decide +kernel
theorem pn_com_example_libtardy_libtardy_QueueNameOfPinLaw : plainName "com/example/libtardy/libtardy/QueueNameOfPinLaw" = true := by first | (simp [plainName, overriddenIn]; done) | decide +kernel
def Q_rmAl (Z : State) (xx : Int32) (h0 : Heap) (n0 : Nat) (v : Option Value) (h : Heap) (L : List Loc) : Prop := ∃ (cc : Int32), v = some (.int cc) ∧ Fr n0 L ∧ h = h0 ∧ (own_ok cc)
set_option maxRecDepth 65536 in
set_option maxHeartbeats 40000000 in
theorem rmAl (l : Launch) (Z : State) (a0 : Array Value) (hw : ∀ d ∈ tables_1, d.before a0 Z = true) (ws : List Jvm.Cond) (xx : Int32) (h0 : Heap) (n0 : Nat) (Z0 : n0 ≤ h0.size) (OLD : Old Z n0 h0) :
    MetFree l (⟨"com/example/libtardy/libtardy/QueueNameOfPinLaw", "allowed", "(I)C"⟩ : MethodName) (head1 (Jvm.Cond.code (⟨"com/example/libtardy/libtardy/QueueNameOfPinLaw", "allowed", "(I)C"⟩ : MethodName) method_2_code 2 (some .char) :: ws) ({ frames := 0, cells := 0, slots := 0, locals := 0 } : Room)) (fun a U => a = #[(.int xx)] ∧ Z.Warmed39 U.vm ∧ U.heap = h0) (fun _ _ _ _ _ => True) (fun _ U o U' => ∃ v L, o = .returned v ∧ Q_rmAl Z xx h0 n0 v U'.heap L ∧ FrameEnd U o U' L ({ frames := 0, cells := 0, slots := 0, locals := 0 } : Room).cells ({ frames := 0, cells := 0, slots := 0, locals := 0 } : Room).slots) := by
  refine MetFree.of_bodySF (plainFor_of_name pn_com_example_libtardy_libtardy_QueueNameOfPinLaw) hisR ?_
  intro p e s m args below meth c s₁ Bd hml0 hP hK
  obtain ⟨rfl, hZ, hh⟩ := hP
  have hx := Bd.exec
  have hby := Bd.bytes
  have hml : c.maxLocals = 2 := hml0
  have hown : s.vm.findClass "com/example/libtardy/libtardy/QueueNameOfPinLaw" = some m.cls := findClass_of_methodNamed Bd.named
  have hnm := (name_of_methodNamed Bd.named Bd.method).1
  have X0 : Stand p l e ({ frames := 0, cells := 0, slots := 0, locals := 0 } : Room) s m #[(.int xx)] below meth c s₁ [] 0 0 := Stand.of_body Bd
  have e0 : s₁.heap = h0 := by rw [← hh, Bd.state]; rfl
  have N0 := Fr.nil n0
  have pre0 : ∀ t, Steps p.tables e below (s₁.setTop (mkF m 0 #[.val (.int xx), .unset] [])) t → Steps p.tables e below (s₁.setTop (entryFrame m #[(.int xx)] 2)) t := fun t k => castTop (ef_rmAl m xx) k
  have oz := OLD.1
  refine own_go (B := s₁.setTop (mkF m 0 #[.val (.int xx), .unset] [])) pre0 ?_
  show ∃ t o, Steps p.tables e below (s₁.setTop (mkF m 0 #[.val (.int xx), .unset] [])) t ∧ _
  refine own_go (fun _ => XS.iloadN X0.here hx rfl (hb hby d1_0) rfl) ?_
  refine own_go (fun _ => X0.ldcInt hx hown (mvT hZ (hw _ (List.mem_of_getElem? (i := 4) rfl))) (g := (mkF m 1 #[.val (.int xx), .unset] [(.int xx)])) rfl (hb hby d1_1) _) ?_
  refine own_go (fun _ => XS.iand X0.here hx rfl (hb hby d1_3) rfl) ?_
  show ∃ t o, Steps p.tables e below (s₁.setTop (mkF m 4 #[.val (.int xx), .unset] [(.int (xx &&& (2147483647 : Int32)))])) t ∧ _
  refine own_go (fun _ => XS.bipush X0.here hx rfl (hb hby d1_4)) ?_
  refine own_go (fun _ => iremM X0 hx rfl (hb hby d1_6) rfl (by decide)) ?_
  refine own_go (fun _ => XS.istoreN X0.here hx rfl (hb hby d1_7) rfl (l' := #[.val (.int xx), .val (.int ((xx &&& (2147483647 : Int32)) % (65 : Int32)))]) rfl) ?_
  show ∃ t o, Steps p.tables e below (s₁.setTop (mkF m 8 #[.val (.int xx), .val (.int ((xx &&& (2147483647 : Int32)) % (65 : Int32)))] [])) t ∧ _
  refine own_go (fun _ => XS.iloadN X0.here hx rfl (hb hby d1_8) rfl) ?_
  refine own_go (fun _ => XS.bipush X0.here hx rfl (hb hby d1_9)) ?_
  show ∃ t o, Steps p.tables e below (s₁.setTop (mkF m 11 #[.val (.int xx), .val (.int ((xx &&& (2147483647 : Int32)) % (65 : Int32)))] [(.int (26 : Int32)), (.int ((xx &&& (2147483647 : Int32)) % (65 : Int32)))])) t ∧ _
  by_cases hc1 : ((xx &&& (2147483647 : Int32)) % (65 : Int32)) < (26 : Int32)
  · refine own_go (fun _ => XS.icmpNo X0.here hx rfl (hb hby d1_11) rfl (tlt hc1).2.1) ?_
    refine own_go (fun _ => XS.bipush X0.here hx rfl (hb hby d1_14)) ?_
    refine own_go (fun _ => XS.iloadN X0.here hx rfl (hb hby d1_16) rfl) ?_
    show ∃ t o, Steps p.tables e below (s₁.setTop (mkF m 17 #[.val (.int xx), .val (.int ((xx &&& (2147483647 : Int32)) % (65 : Int32)))] [(.int ((xx &&& (2147483647 : Int32)) % (65 : Int32))), (.int (65 : Int32))])) t ∧ _
    refine own_go (fun _ => XS.iadd X0.here hx rfl (hb hby d1_17) rfl) ?_
    refine own_go (fun _ => XS.i2c X0.here hx rfl (hb hby d1_18) rfl) ?_
    have b65 := own_65 xx
    obtain ⟨kk, hkk⟩ : ∃ z, z = ((xx &&& (2147483647 : Int32)) % (65 : Int32)) := ⟨_, rfl⟩
    have b65' := b65
    rw [← hkk] at b65'
    have t26 : (26 : Int32).toInt = 26 := rfl
    have t10 : (10 : Int32).toInt = 10 := rfl
    have t1 : (1 : Int32).toInt = 1 := rfl
    have t0 : (0 : Int32).toInt = 0 := rfl
    have q0 := hc1
    rw [← hkk] at q0
    rw [Int32.lt_iff_toInt_lt] at q0
    have ok0 : own_ok (nar .char (((65 : Int32) + ((xx &&& (2147483647 : Int32)) % (65 : Int32))).toUInt32.toUInt16.toUInt32.toInt32)) := by rw [← hkk]; unfold own_ok; rw [own_al 65 kk 65 _ rfl rfl (by decide) (by decide) (by omega) (by omega)]; omega
    show ∃ t o, Steps p.tables e below (s₁.setTop (mkF m 19 #[.val (.int xx), .val (.int ((xx &&& (2147483647 : Int32)) % (65 : Int32)))] [(.int (((65 : Int32) + ((xx &&& (2147483647 : Int32)) % (65 : Int32))).toUInt32.toUInt16.toUInt32.toInt32))])) t ∧ _
    obtain ⟨fs, hr, hrun, hended, hW, hsame⟩ := X0.leave (v := some (.int (nar .char (((65 : Int32) + ((xx &&& (2147483647 : Int32)) % (65 : Int32))).toUInt32.toUInt16.toUInt32.toInt32)))) (fun h => by rw [Bd.returns] at h; cases h)
    refine ⟨_, _, ?_, hrun, hended, _, _, rfl, ?_, ⟨_, rfl⟩, hW, hsame.mono (by decide) (by decide)⟩
    · exact retN X0 hx (t := .char) Bd.returns (by simp) (hb hby d1_19) hr
    · show Q_rmAl Z _ h0 n0 _ s₁.heap _
      rw [e0]
      exact ⟨(nar .char (((65 : Int32) + ((xx &&& (2147483647 : Int32)) % (65 : Int32))).toUInt32.toUInt16.toUInt32.toInt32)), rfl, N0, rfl, ok0⟩
  · refine own_go (fun _ => XS.icmpYes X0.here hx rfl (pc0 := 11) (pc' := 20) rfl (hb hby d1_11) rfl (flt hc1).2.1 (by decide) (by decide)) ?_
    refine own_go (fun _ => XS.iloadN X0.here hx rfl (hb hby d1_20) rfl) ?_
    refine own_go (fun _ => XS.bipush X0.here hx rfl (hb hby d1_21)) ?_
    show ∃ t o, Steps p.tables e below (s₁.setTop (mkF m 23 #[.val (.int xx), .val (.int ((xx &&& (2147483647 : Int32)) % (65 : Int32)))] [(.int (26 : Int32)), (.int ((xx &&& (2147483647 : Int32)) % (65 : Int32)))])) t ∧ _
    refine own_go (fun _ => XS.isub X0.here hx rfl (hb hby d1_23) rfl) ?_
    refine own_go (fun _ => XS.istoreN X0.here hx rfl (hb hby d1_24) rfl (l' := #[.val (.int xx), .val (.int (((xx &&& (2147483647 : Int32)) % (65 : Int32)) - (26 : Int32)))]) rfl) ?_
    refine own_go (fun _ => XS.iloadN X0.here hx rfl (hb hby d1_25) rfl) ?_
    show ∃ t o, Steps p.tables e below (s₁.setTop (mkF m 26 #[.val (.int xx), .val (.int (((xx &&& (2147483647 : Int32)) % (65 : Int32)) - (26 : Int32)))] [(.int (((xx &&& (2147483647 : Int32)) % (65 : Int32)) - (26 : Int32)))])) t ∧ _
    refine own_go (fun _ => XS.bipush X0.here hx rfl (hb hby d1_26)) ?_
    show ∃ t o, Steps p.tables e below (s₁.setTop (mkF m 28 #[.val (.int xx), .val (.int (((xx &&& (2147483647 : Int32)) % (65 : Int32)) - (26 : Int32)))] [(.int (26 : Int32)), (.int (((xx &&& (2147483647 : Int32)) % (65 : Int32)) - (26 : Int32)))])) t ∧ _
    by_cases hc2 : (((xx &&& (2147483647 : Int32)) % (65 : Int32)) - (26 : Int32)) < (26 : Int32)
    · refine own_go (fun _ => XS.icmpNo X0.here hx rfl (hb hby d1_28) rfl (tlt hc2).2.1) ?_
      refine own_go (fun _ => XS.bipush X0.here hx rfl (hb hby d1_31)) ?_
      refine own_go (fun _ => XS.iloadN X0.here hx rfl (hb hby d1_33) rfl) ?_
      show ∃ t o, Steps p.tables e below (s₁.setTop (mkF m 34 #[.val (.int xx), .val (.int (((xx &&& (2147483647 : Int32)) % (65 : Int32)) - (26 : Int32)))] [(.int (((xx &&& (2147483647 : Int32)) % (65 : Int32)) - (26 : Int32))), (.int (97 : Int32))])) t ∧ _
      refine own_go (fun _ => XS.iadd X0.here hx rfl (hb hby d1_34) rfl) ?_
      refine own_go (fun _ => XS.i2c X0.here hx rfl (hb hby d1_35) rfl) ?_
      have b65 := own_65 xx
      obtain ⟨kk, hkk⟩ : ∃ z, z = ((xx &&& (2147483647 : Int32)) % (65 : Int32)) := ⟨_, rfl⟩
      have b65' := b65
      rw [← hkk] at b65'
      have t26 : (26 : Int32).toInt = 26 := rfl
      have t10 : (10 : Int32).toInt = 10 := rfl
      have t1 : (1 : Int32).toInt = 1 := rfl
      have t0 : (0 : Int32).toInt = 0 := rfl
      have q0 := hc1
      rw [← hkk] at q0
      rw [Int32.lt_iff_toInt_lt] at q0
      have q1 := hc2
      rw [← hkk] at q1
      rw [Int32.lt_iff_toInt_lt] at q1
      have s1 := own_sub kk 26 _ 26 rfl rfl (by omega) (by omega) (by decide)
      rw [s1] at q1
      have ok0 : own_ok (nar .char (((97 : Int32) + (((xx &&& (2147483647 : Int32)) % (65 : Int32)) - (26 : Int32))).toUInt32.toUInt16.toUInt32.toInt32)) := by rw [← hkk]; unfold own_ok; rw [own_al 97 _ 97 _ rfl s1 (by decide) (by decide) (by omega) (by omega)]; omega
      show ∃ t o, Steps p.tables e below (s₁.setTop (mkF m 36 #[.val (.int xx), .val (.int (((xx &&& (2147483647 : Int32)) % (65 : Int32)) - (26 : Int32)))] [(.int (((97 : Int32) + (((xx &&& (2147483647 : Int32)) % (65 : Int32)) - (26 : Int32))).toUInt32.toUInt16.toUInt32.toInt32))])) t ∧ _
      obtain ⟨fs, hr, hrun, hended, hW, hsame⟩ := X0.leave (v := some (.int (nar .char (((97 : Int32) + (((xx &&& (2147483647 : Int32)) % (65 : Int32)) - (26 : Int32))).toUInt32.toUInt16.toUInt32.toInt32)))) (fun h => by rw [Bd.returns] at h; cases h)
      refine ⟨_, _, ?_, hrun, hended, _, _, rfl, ?_, ⟨_, rfl⟩, hW, hsame.mono (by decide) (by decide)⟩
      · exact retN X0 hx (t := .char) Bd.returns (by simp) (hb hby d1_36) hr
      · show Q_rmAl Z _ h0 n0 _ s₁.heap _
        rw [e0]
        exact ⟨(nar .char (((97 : Int32) + (((xx &&& (2147483647 : Int32)) % (65 : Int32)) - (26 : Int32))).toUInt32.toUInt16.toUInt32.toInt32)), rfl, N0, rfl, ok0⟩
    · refine own_go (fun _ => XS.icmpYes X0.here hx rfl (pc0 := 28) (pc' := 37) rfl (hb hby d1_28) rfl (flt hc2).2.1 (by decide) (by decide)) ?_
      refine own_go (fun _ => XS.iloadN X0.here hx rfl (hb hby d1_37) rfl) ?_
      refine own_go (fun _ => XS.bipush X0.here hx rfl (hb hby d1_38)) ?_
      show ∃ t o, Steps p.tables e below (s₁.setTop (mkF m 40 #[.val (.int xx), .val (.int (((xx &&& (2147483647 : Int32)) % (65 : Int32)) - (26 : Int32)))] [(.int (26 : Int32)), (.int (((xx &&& (2147483647 : Int32)) % (65 : Int32)) - (26 : Int32)))])) t ∧ _
      refine own_go (fun _ => XS.isub X0.here hx rfl (hb hby d1_40) rfl) ?_
      refine own_go (fun _ => XS.istoreN X0.here hx rfl (hb hby d1_41) rfl (l' := #[.val (.int xx), .val (.int ((((xx &&& (2147483647 : Int32)) % (65 : Int32)) - (26 : Int32)) - (26 : Int32)))]) rfl) ?_
      refine own_go (fun _ => XS.iloadN X0.here hx rfl (hb hby d1_42) rfl) ?_
      show ∃ t o, Steps p.tables e below (s₁.setTop (mkF m 43 #[.val (.int xx), .val (.int ((((xx &&& (2147483647 : Int32)) % (65 : Int32)) - (26 : Int32)) - (26 : Int32)))] [(.int ((((xx &&& (2147483647 : Int32)) % (65 : Int32)) - (26 : Int32)) - (26 : Int32)))])) t ∧ _
      refine own_go (fun _ => XS.bipush X0.here hx rfl (hb hby d1_43)) ?_
      show ∃ t o, Steps p.tables e below (s₁.setTop (mkF m 45 #[.val (.int xx), .val (.int ((((xx &&& (2147483647 : Int32)) % (65 : Int32)) - (26 : Int32)) - (26 : Int32)))] [(.int (10 : Int32)), (.int ((((xx &&& (2147483647 : Int32)) % (65 : Int32)) - (26 : Int32)) - (26 : Int32)))])) t ∧ _
      by_cases hc3 : ((((xx &&& (2147483647 : Int32)) % (65 : Int32)) - (26 : Int32)) - (26 : Int32)) < (10 : Int32)
      · refine own_go (fun _ => XS.icmpNo X0.here hx rfl (hb hby d1_45) rfl (tlt hc3).2.1) ?_
        refine own_go (fun _ => XS.bipush X0.here hx rfl (hb hby d1_48)) ?_
        refine own_go (fun _ => XS.iloadN X0.here hx rfl (hb hby d1_50) rfl) ?_
        show ∃ t o, Steps p.tables e below (s₁.setTop (mkF m 51 #[.val (.int xx), .val (.int ((((xx &&& (2147483647 : Int32)) % (65 : Int32)) - (26 : Int32)) - (26 : Int32)))] [(.int ((((xx &&& (2147483647 : Int32)) % (65 : Int32)) - (26 : Int32)) - (26 : Int32))), (.int (48 : Int32))])) t ∧ _
        refine own_go (fun _ => XS.iadd X0.here hx rfl (hb hby d1_51) rfl) ?_
        refine own_go (fun _ => XS.i2c X0.here hx rfl (hb hby d1_52) rfl) ?_
        have b65 := own_65 xx
        obtain ⟨kk, hkk⟩ : ∃ z, z = ((xx &&& (2147483647 : Int32)) % (65 : Int32)) := ⟨_, rfl⟩
        have b65' := b65
        rw [← hkk] at b65'
        have t26 : (26 : Int32).toInt = 26 := rfl
        have t10 : (10 : Int32).toInt = 10 := rfl
        have t1 : (1 : Int32).toInt = 1 := rfl
        have t0 : (0 : Int32).toInt = 0 := rfl
        have q0 := hc1
        rw [← hkk] at q0
        rw [Int32.lt_iff_toInt_lt] at q0
        have q1 := hc2
        rw [← hkk] at q1
        rw [Int32.lt_iff_toInt_lt] at q1
        have q2 := hc3
        rw [← hkk] at q2
        rw [Int32.lt_iff_toInt_lt] at q2
        have s1 := own_sub kk 26 _ 26 rfl rfl (by omega) (by omega) (by decide)
        rw [s1] at q1
        have s2 := own_sub (kk - 26) 26 _ 26 s1 rfl (by omega) (by omega) (by decide)
        rw [s2] at q2
        have ok0 : own_ok (nar .char (((48 : Int32) + ((((xx &&& (2147483647 : Int32)) % (65 : Int32)) - (26 : Int32)) - (26 : Int32))).toUInt32.toUInt16.toUInt32.toInt32)) := by rw [← hkk]; unfold own_ok; rw [own_al 48 _ 48 _ rfl s2 (by decide) (by decide) (by omega) (by omega)]; omega
        show ∃ t o, Steps p.tables e below (s₁.setTop (mkF m 53 #[.val (.int xx), .val (.int ((((xx &&& (2147483647 : Int32)) % (65 : Int32)) - (26 : Int32)) - (26 : Int32)))] [(.int (((48 : Int32) + ((((xx &&& (2147483647 : Int32)) % (65 : Int32)) - (26 : Int32)) - (26 : Int32))).toUInt32.toUInt16.toUInt32.toInt32))])) t ∧ _
        obtain ⟨fs, hr, hrun, hended, hW, hsame⟩ := X0.leave (v := some (.int (nar .char (((48 : Int32) + ((((xx &&& (2147483647 : Int32)) % (65 : Int32)) - (26 : Int32)) - (26 : Int32))).toUInt32.toUInt16.toUInt32.toInt32)))) (fun h => by rw [Bd.returns] at h; cases h)
        refine ⟨_, _, ?_, hrun, hended, _, _, rfl, ?_, ⟨_, rfl⟩, hW, hsame.mono (by decide) (by decide)⟩
        · exact retN X0 hx (t := .char) Bd.returns (by simp) (hb hby d1_53) hr
        · show Q_rmAl Z _ h0 n0 _ s₁.heap _
          rw [e0]
          exact ⟨(nar .char (((48 : Int32) + ((((xx &&& (2147483647 : Int32)) % (65 : Int32)) - (26 : Int32)) - (26 : Int32))).toUInt32.toUInt16.toUInt32.toInt32)), rfl, N0, rfl, ok0⟩
      · refine own_go (fun _ => XS.icmpYes X0.here hx rfl (pc0 := 45) (pc' := 54) rfl (hb hby d1_45) rfl (flt hc3).2.1 (by decide) (by decide)) ?_
        refine own_go (fun _ => XS.iloadN X0.here hx rfl (hb hby d1_54) rfl) ?_
        refine own_go (fun _ => XS.bipush X0.here hx rfl (hb hby d1_55)) ?_
        show ∃ t o, Steps p.tables e below (s₁.setTop (mkF m 57 #[.val (.int xx), .val (.int ((((xx &&& (2147483647 : Int32)) % (65 : Int32)) - (26 : Int32)) - (26 : Int32)))] [(.int (10 : Int32)), (.int ((((xx &&& (2147483647 : Int32)) % (65 : Int32)) - (26 : Int32)) - (26 : Int32)))])) t ∧ _
        refine own_go (fun _ => XS.isub X0.here hx rfl (hb hby d1_57) rfl) ?_
        refine own_go (fun _ => XS.istoreN X0.here hx rfl (hb hby d1_58) rfl (l' := #[.val (.int xx), .val (.int (((((xx &&& (2147483647 : Int32)) % (65 : Int32)) - (26 : Int32)) - (26 : Int32)) - (10 : Int32)))]) rfl) ?_
        refine own_go (fun _ => XS.iloadN X0.here hx rfl (hb hby d1_59) rfl) ?_
        show ∃ t o, Steps p.tables e below (s₁.setTop (mkF m 60 #[.val (.int xx), .val (.int (((((xx &&& (2147483647 : Int32)) % (65 : Int32)) - (26 : Int32)) - (26 : Int32)) - (10 : Int32)))] [(.int (((((xx &&& (2147483647 : Int32)) % (65 : Int32)) - (26 : Int32)) - (26 : Int32)) - (10 : Int32)))])) t ∧ _
        by_cases hc4 : (((((xx &&& (2147483647 : Int32)) % (65 : Int32)) - (26 : Int32)) - (26 : Int32)) - (10 : Int32)) = (0 : Int32)
        · refine own_go (fun _ => XS.ifNo X0.here hx rfl (hb hby d1_60) rfl ((if0 _ _).trans (teq hc4).2)) ?_
          refine own_go (fun _ => XS.bipush X0.here hx rfl (hb hby d1_63)) ?_
          have b65 := own_65 xx
          obtain ⟨kk, hkk⟩ : ∃ z, z = ((xx &&& (2147483647 : Int32)) % (65 : Int32)) := ⟨_, rfl⟩
          have b65' := b65
          rw [← hkk] at b65'
          have t26 : (26 : Int32).toInt = 26 := rfl
          have t10 : (10 : Int32).toInt = 10 := rfl
          have t1 : (1 : Int32).toInt = 1 := rfl
          have t0 : (0 : Int32).toInt = 0 := rfl
          have q0 := hc1
          rw [← hkk] at q0
          rw [Int32.lt_iff_toInt_lt] at q0
          have q1 := hc2
          rw [← hkk] at q1
          rw [Int32.lt_iff_toInt_lt] at q1
          have q2 := hc3
          rw [← hkk] at q2
          rw [Int32.lt_iff_toInt_lt] at q2
          have q3 := hc4
          rw [← hkk] at q3
          have s1 := own_sub kk 26 _ 26 rfl rfl (by omega) (by omega) (by decide)
          rw [s1] at q1
          have s2 := own_sub (kk - 26) 26 _ 26 s1 rfl (by omega) (by omega) (by decide)
          rw [s2] at q2
          have ok0 : own_ok (46 : Int32) := by unfold own_ok; decide
          show ∃ t o, Steps p.tables e below (s₁.setTop (mkF m 65 #[.val (.int xx), .val (.int (((((xx &&& (2147483647 : Int32)) % (65 : Int32)) - (26 : Int32)) - (26 : Int32)) - (10 : Int32)))] [(.int (46 : Int32))])) t ∧ _
          obtain ⟨fs, hr, hrun, hended, hW, hsame⟩ := X0.leave (v := some (.int (46 : Int32))) (fun h => by rw [Bd.returns] at h; cases h)
          refine ⟨_, _, ?_, hrun, hended, _, _, rfl, ?_, ⟨_, rfl⟩, hW, hsame.mono (by decide) (by decide)⟩
          · exact retN X0 hx (t := .char) Bd.returns (by simp) (hb hby d1_65) hr
          · show Q_rmAl Z _ h0 n0 _ s₁.heap _
            rw [e0]
            exact ⟨(46 : Int32), rfl, N0, rfl, ok0⟩
        · refine own_go (fun _ => XS.ifYes X0.here hx rfl (pc0 := 60) (pc' := 66) rfl (hb hby d1_60) rfl ((if0 _ _).trans (feq hc4).2) (by decide) (by decide)) ?_
          refine own_go (fun _ => XS.iloadN X0.here hx rfl (hb hby d1_66) rfl) ?_
          refine own_go (fun _ => XS.iconst X0.here hx rfl (hb hby d1_67)) ?_
          show ∃ t o, Steps p.tables e below (s₁.setTop (mkF m 68 #[.val (.int xx), .val (.int (((((xx &&& (2147483647 : Int32)) % (65 : Int32)) - (26 : Int32)) - (26 : Int32)) - (10 : Int32)))] [(.int (1 : Int32)), (.int (((((xx &&& (2147483647 : Int32)) % (65 : Int32)) - (26 : Int32)) - (26 : Int32)) - (10 : Int32)))])) t ∧ _
          by_cases hc5 : (((((xx &&& (2147483647 : Int32)) % (65 : Int32)) - (26 : Int32)) - (26 : Int32)) - (10 : Int32)) = (1 : Int32)
          · refine own_go (fun _ => XS.icmpNo X0.here hx rfl (hb hby d1_68) rfl (teq hc5).2) ?_
            refine own_go (fun _ => XS.bipush X0.here hx rfl (hb hby d1_71)) ?_
            have b65 := own_65 xx
            obtain ⟨kk, hkk⟩ : ∃ z, z = ((xx &&& (2147483647 : Int32)) % (65 : Int32)) := ⟨_, rfl⟩
            have b65' := b65
            rw [← hkk] at b65'
            have t26 : (26 : Int32).toInt = 26 := rfl
            have t10 : (10 : Int32).toInt = 10 := rfl
            have t1 : (1 : Int32).toInt = 1 := rfl
            have t0 : (0 : Int32).toInt = 0 := rfl
            have q0 := hc1
            rw [← hkk] at q0
            rw [Int32.lt_iff_toInt_lt] at q0
            have q1 := hc2
            rw [← hkk] at q1
            rw [Int32.lt_iff_toInt_lt] at q1
            have q2 := hc3
            rw [← hkk] at q2
            rw [Int32.lt_iff_toInt_lt] at q2
            have q3 := hc4
            rw [← hkk] at q3
            have q4 := hc5
            rw [← hkk] at q4
            have s1 := own_sub kk 26 _ 26 rfl rfl (by omega) (by omega) (by decide)
            rw [s1] at q1
            have s2 := own_sub (kk - 26) 26 _ 26 s1 rfl (by omega) (by omega) (by decide)
            rw [s2] at q2
            have ok0 : own_ok (95 : Int32) := by unfold own_ok; decide
            show ∃ t o, Steps p.tables e below (s₁.setTop (mkF m 73 #[.val (.int xx), .val (.int (((((xx &&& (2147483647 : Int32)) % (65 : Int32)) - (26 : Int32)) - (26 : Int32)) - (10 : Int32)))] [(.int (95 : Int32))])) t ∧ _
            obtain ⟨fs, hr, hrun, hended, hW, hsame⟩ := X0.leave (v := some (.int (95 : Int32))) (fun h => by rw [Bd.returns] at h; cases h)
            refine ⟨_, _, ?_, hrun, hended, _, _, rfl, ?_, ⟨_, rfl⟩, hW, hsame.mono (by decide) (by decide)⟩
            · exact retN X0 hx (t := .char) Bd.returns (by simp) (hb hby d1_73) hr
            · show Q_rmAl Z _ h0 n0 _ s₁.heap _
              rw [e0]
              exact ⟨(95 : Int32), rfl, N0, rfl, ok0⟩
          · refine own_go (fun _ => XS.icmpYes X0.here hx rfl (pc0 := 68) (pc' := 74) rfl (hb hby d1_68) rfl (feq hc5).2 (by decide) (by decide)) ?_
            refine own_go (fun _ => XS.bipush X0.here hx rfl (hb hby d1_74)) ?_
            have b65 := own_65 xx
            obtain ⟨kk, hkk⟩ : ∃ z, z = ((xx &&& (2147483647 : Int32)) % (65 : Int32)) := ⟨_, rfl⟩
            have b65' := b65
            rw [← hkk] at b65'
            have t26 : (26 : Int32).toInt = 26 := rfl
            have t10 : (10 : Int32).toInt = 10 := rfl
            have t1 : (1 : Int32).toInt = 1 := rfl
            have t0 : (0 : Int32).toInt = 0 := rfl
            have q0 := hc1
            rw [← hkk] at q0
            rw [Int32.lt_iff_toInt_lt] at q0
            have q1 := hc2
            rw [← hkk] at q1
            rw [Int32.lt_iff_toInt_lt] at q1
            have q2 := hc3
            rw [← hkk] at q2
            rw [Int32.lt_iff_toInt_lt] at q2
            have q3 := hc4
            rw [← hkk] at q3
            have q4 := hc5
            rw [← hkk] at q4
            have s1 := own_sub kk 26 _ 26 rfl rfl (by omega) (by omega) (by decide)
            rw [s1] at q1
            have s2 := own_sub (kk - 26) 26 _ 26 s1 rfl (by omega) (by omega) (by decide)
            rw [s2] at q2
            have ok0 : own_ok (45 : Int32) := by unfold own_ok; decide
            show ∃ t o, Steps p.tables e below (s₁.setTop (mkF m 76 #[.val (.int xx), .val (.int (((((xx &&& (2147483647 : Int32)) % (65 : Int32)) - (26 : Int32)) - (26 : Int32)) - (10 : Int32)))] [(.int (45 : Int32))])) t ∧ _
            obtain ⟨fs, hr, hrun, hended, hW, hsame⟩ := X0.leave (v := some (.int (45 : Int32))) (fun h => by rw [Bd.returns] at h; cases h)
            refine ⟨_, _, ?_, hrun, hended, _, _, rfl, ?_, ⟨_, rfl⟩, hW, hsame.mono (by decide) (by decide)⟩
            · exact retN X0 hx (t := .char) Bd.returns (by simp) (hb hby d1_76) hr
            · show Q_rmAl Z _ h0 n0 _ s₁.heap _
              rw [e0]
              exact ⟨(45 : Int32), rfl, N0, rfl, ok0⟩
theorem ef_rmIs (m : MethodId) (x0 : Int32) : entryFrame m #[(.int x0)] 1 = mkF m 0 #[.val (.int x0)] [] := by first | (simp [entryFrame, mkF, argsToLocals, Value.category]; done) | rfl
theorem d18_0 : decode prog_6_method_3_code 0 = .ok (.iload_n 0, 1) := by decide +kernel
theorem d18_1 : decode prog_6_method_3_code 1 = .ok (.bipush 65, 2) := by decide +kernel
theorem d18_3 : decode prog_6_method_3_code 3 = .ok (.if_icmp .lt 9, 3) := by decide +kernel
theorem d18_12 : decode prog_6_method_3_code 12 = .ok (.iload_n 0, 1) := by decide +kernel
theorem d18_13 : decode prog_6_method_3_code 13 = .ok (.bipush 97, 2) := by decide +kernel
theorem d18_15 : decode prog_6_method_3_code 15 = .ok (.if_icmp .lt 9, 3) := by decide +kernel
theorem d18_24 : decode prog_6_method_3_code 24 = .ok (.iload_n 0, 1) := by decide +kernel
theorem d18_25 : decode prog_6_method_3_code 25 = .ok (.bipush 48, 2) := by decide +kernel
theorem d18_27 : decode prog_6_method_3_code 27 = .ok (.if_icmp .lt 9, 3) := by decide +kernel
theorem d18_36 : decode prog_6_method_3_code 36 = .ok (.iload_n 0, 1) := by decide +kernel
theorem d18_37 : decode prog_6_method_3_code 37 = .ok (.bipush 46, 2) := by decide +kernel
theorem d18_39 : decode prog_6_method_3_code 39 = .ok (.if_icmp .eq 15, 3) := by decide +kernel
theorem d18_54 : decode prog_6_method_3_code 54 = .ok (.iconst 1, 1) := by decide +kernel
theorem d18_55 : decode prog_6_method_3_code 55 = .ok (.goto 4, 3) := by decide +kernel
theorem d18_59 : decode prog_6_method_3_code 59 = .ok (.ireturn, 1) := by decide +kernel
theorem d18_42 : decode prog_6_method_3_code 42 = .ok (.iload_n 0, 1) := by decide +kernel
theorem d18_43 : decode prog_6_method_3_code 43 = .ok (.bipush 95, 2) := by decide +kernel
theorem d18_45 : decode prog_6_method_3_code 45 = .ok (.if_icmp .eq 9, 3) := by decide +kernel
theorem d18_48 : decode prog_6_method_3_code 48 = .ok (.iload_n 0, 1) := by decide +kernel
theorem d18_49 : decode prog_6_method_3_code 49 = .ok (.bipush 45, 2) := by decide +kernel
theorem d18_51 : decode prog_6_method_3_code 51 = .ok (.if_icmp .ne 7, 3) := by decide +kernel
theorem d18_58 : decode prog_6_method_3_code 58 = .ok (.iconst 0, 1) := by decide +kernel
theorem d18_30 : decode prog_6_method_3_code 30 = .ok (.iload_n 0, 1) := by decide +kernel
theorem d18_31 : decode prog_6_method_3_code 31 = .ok (.bipush 57, 2) := by decide +kernel
theorem d18_33 : decode prog_6_method_3_code 33 = .ok (.if_icmp .le 21, 3) := by decide +kernel
theorem d18_18 : decode prog_6_method_3_code 18 = .ok (.iload_n 0, 1) := by decide +kernel
theorem d18_19 : decode prog_6_method_3_code 19 = .ok (.bipush 122, 2) := by decide +kernel
theorem d18_21 : decode prog_6_method_3_code 21 = .ok (.if_icmp .le 33, 3) := by decide +kernel
theorem d18_6 : decode prog_6_method_3_code 6 = .ok (.iload_n 0, 1) := by decide +kernel
theorem d18_7 : decode prog_6_method_3_code 7 = .ok (.bipush 90, 2) := by decide +kernel
theorem d18_9 : decode prog_6_method_3_code 9 = .ok (.if_icmp .le 45, 3) := by decide +kernel
theorem pn_com_example_libtardy_libtardy_QueueName : plainName "com/example/libtardy/libtardy/QueueName" = true := by first | (simp [plainName, overriddenIn]; done) | decide +kernel
def Q_rmIs (Z : State) (c0 : Int32) (h0 : Heap) (n0 : Nat) (v : Option Value) (h : Heap) (L : List Loc) : Prop := v = some (.int (1 : Int32)) ∧ Fr n0 L ∧ h = h0
set_option maxRecDepth 65536 in
set_option maxHeartbeats 40000000 in
theorem rmIs (l : Launch) (Z : State) (a0 : Array Value) (hw : ∀ d ∈ tables_1, d.before a0 Z = true) (ws : List Jvm.Cond) (c0 : Int32) (h0 : Heap) (n0 : Nat) (Z0 : n0 ≤ h0.size) (OLD : Old Z n0 h0) (hok : own_ok c0) :
    MetFree l (⟨"com/example/libtardy/libtardy/QueueName", "isAllowed", "(C)Z"⟩ : MethodName) (head1 (Jvm.Cond.code (⟨"com/example/libtardy/libtardy/QueueName", "isAllowed", "(C)Z"⟩ : MethodName) prog_6_method_3_code 1 (some .boolean) :: ws) ({ frames := 0, cells := 0, slots := 0, locals := 0 } : Room)) (fun a U => a = #[(.int c0)] ∧ Z.Warmed39 U.vm ∧ U.heap = h0) (fun _ _ _ _ _ => True) (fun _ U o U' => ∃ v L, o = .returned v ∧ Q_rmIs Z c0 h0 n0 v U'.heap L ∧ FrameEnd U o U' L ({ frames := 0, cells := 0, slots := 0, locals := 0 } : Room).cells ({ frames := 0, cells := 0, slots := 0, locals := 0 } : Room).slots) := by
  refine MetFree.of_bodySF (plainFor_of_name pn_com_example_libtardy_libtardy_QueueName) hisR ?_
  intro p e s m args below meth c s₁ Bd hml0 hP hK
  obtain ⟨rfl, hZ, hh⟩ := hP
  have hx := Bd.exec
  have hby := Bd.bytes
  have hml : c.maxLocals = 1 := hml0
  have hown : s.vm.findClass "com/example/libtardy/libtardy/QueueName" = some m.cls := findClass_of_methodNamed Bd.named
  have hnm := (name_of_methodNamed Bd.named Bd.method).1
  have X0 : Stand p l e ({ frames := 0, cells := 0, slots := 0, locals := 0 } : Room) s m #[(.int c0)] below meth c s₁ [] 0 0 := Stand.of_body Bd
  have e0 : s₁.heap = h0 := by rw [← hh, Bd.state]; rfl
  have N0 := Fr.nil n0
  have pre0 : ∀ t, Steps p.tables e below (s₁.setTop (mkF m 0 #[.val (.int c0)] [])) t → Steps p.tables e below (s₁.setTop (entryFrame m #[(.int c0)] 1)) t := fun t k => castTop (ef_rmIs m c0) k
  have oz := OLD.1
  refine own_go (B := s₁.setTop (mkF m 0 #[.val (.int c0)] [])) pre0 ?_
  show ∃ t o, Steps p.tables e below (s₁.setTop (mkF m 0 #[.val (.int c0)] [])) t ∧ _
  refine own_go (fun _ => XS.iloadN X0.here hx rfl (hb hby d18_0) rfl) ?_
  refine own_go (fun _ => XS.bipush X0.here hx rfl (hb hby d18_1)) ?_
  show ∃ t o, Steps p.tables e below (s₁.setTop (mkF m 3 #[.val (.int c0)] [(.int (65 : Int32)), (.int c0)])) t ∧ _
  by_cases hc1 : c0 < (65 : Int32)
  · refine own_go (fun _ => XS.icmpYes X0.here hx rfl (pc0 := 3) (pc' := 12) rfl (hb hby d18_3) rfl (tlt hc1).1 (by decide) (by decide)) ?_
    refine own_go (fun _ => XS.iloadN X0.here hx rfl (hb hby d18_12) rfl) ?_
    refine own_go (fun _ => XS.bipush X0.here hx rfl (hb hby d18_13)) ?_
    show ∃ t o, Steps p.tables e below (s₁.setTop (mkF m 15 #[.val (.int c0)] [(.int (97 : Int32)), (.int c0)])) t ∧ _
    by_cases hc2 : c0 < (97 : Int32)
    · refine own_go (fun _ => XS.icmpYes X0.here hx rfl (pc0 := 15) (pc' := 24) rfl (hb hby d18_15) rfl (tlt hc2).1 (by decide) (by decide)) ?_
      refine own_go (fun _ => XS.iloadN X0.here hx rfl (hb hby d18_24) rfl) ?_
      refine own_go (fun _ => XS.bipush X0.here hx rfl (hb hby d18_25)) ?_
      show ∃ t o, Steps p.tables e below (s₁.setTop (mkF m 27 #[.val (.int c0)] [(.int (48 : Int32)), (.int c0)])) t ∧ _
      by_cases hc3 : c0 < (48 : Int32)
      · refine own_go (fun _ => XS.icmpYes X0.here hx rfl (pc0 := 27) (pc' := 36) rfl (hb hby d18_27) rfl (tlt hc3).1 (by decide) (by decide)) ?_
        refine own_go (fun _ => XS.iloadN X0.here hx rfl (hb hby d18_36) rfl) ?_
        refine own_go (fun _ => XS.bipush X0.here hx rfl (hb hby d18_37)) ?_
        show ∃ t o, Steps p.tables e below (s₁.setTop (mkF m 39 #[.val (.int c0)] [(.int (46 : Int32)), (.int c0)])) t ∧ _
        by_cases hc4 : c0 = (46 : Int32)
        · refine own_go (fun _ => XS.icmpYes X0.here hx rfl (pc0 := 39) (pc' := 54) rfl (hb hby d18_39) rfl (teq hc4).1 (by decide) (by decide)) ?_
          refine own_go (fun _ => XS.iconst X0.here hx rfl (hb hby d18_54)) ?_
          refine own_go (fun _ => XS.goto X0.here hx rfl (pc0 := 55) (pc' := 59) rfl (hb hby d18_55) (by decide) (by decide)) ?_
          show ∃ t o, Steps p.tables e below (s₁.setTop (mkF m 59 #[.val (.int c0)] [(.int (1 : Int32))])) t ∧ _
          obtain ⟨fs, hr, hrun, hended, hW, hsame⟩ := X0.leave (v := some (.int (1 : Int32))) (fun h => by rw [Bd.returns] at h; cases h)
          refine ⟨_, _, ?_, hrun, hended, _, _, rfl, ?_, ⟨_, rfl⟩, hW, hsame.mono (by decide) (by decide)⟩
          · exact retN X0 hx (t := .boolean) Bd.returns (by simp) (hb hby d18_59) hr
          · show Q_rmIs Z _ h0 n0 _ s₁.heap _
            rw [e0]
            exact ⟨rfl, N0, rfl⟩
        · refine own_go (fun _ => XS.icmpNo X0.here hx rfl (hb hby d18_39) rfl (feq hc4).1) ?_
          refine own_go (fun _ => XS.iloadN X0.here hx rfl (hb hby d18_42) rfl) ?_
          refine own_go (fun _ => XS.bipush X0.here hx rfl (hb hby d18_43)) ?_
          show ∃ t o, Steps p.tables e below (s₁.setTop (mkF m 45 #[.val (.int c0)] [(.int (95 : Int32)), (.int c0)])) t ∧ _
          by_cases hc5 : c0 = (95 : Int32)
          · refine own_go (fun _ => XS.icmpYes X0.here hx rfl (pc0 := 45) (pc' := 54) rfl (hb hby d18_45) rfl (teq hc5).1 (by decide) (by decide)) ?_
            refine own_go (fun _ => XS.iconst X0.here hx rfl (hb hby d18_54)) ?_
            refine own_go (fun _ => XS.goto X0.here hx rfl (pc0 := 55) (pc' := 59) rfl (hb hby d18_55) (by decide) (by decide)) ?_
            show ∃ t o, Steps p.tables e below (s₁.setTop (mkF m 59 #[.val (.int c0)] [(.int (1 : Int32))])) t ∧ _
            obtain ⟨fs, hr, hrun, hended, hW, hsame⟩ := X0.leave (v := some (.int (1 : Int32))) (fun h => by rw [Bd.returns] at h; cases h)
            refine ⟨_, _, ?_, hrun, hended, _, _, rfl, ?_, ⟨_, rfl⟩, hW, hsame.mono (by decide) (by decide)⟩
            · exact retN X0 hx (t := .boolean) Bd.returns (by simp) (hb hby d18_59) hr
            · show Q_rmIs Z _ h0 n0 _ s₁.heap _
              rw [e0]
              exact ⟨rfl, N0, rfl⟩
          · refine own_go (fun _ => XS.icmpNo X0.here hx rfl (hb hby d18_45) rfl (feq hc5).1) ?_
            refine own_go (fun _ => XS.iloadN X0.here hx rfl (hb hby d18_48) rfl) ?_
            refine own_go (fun _ => XS.bipush X0.here hx rfl (hb hby d18_49)) ?_
            show ∃ t o, Steps p.tables e below (s₁.setTop (mkF m 51 #[.val (.int c0)] [(.int (45 : Int32)), (.int c0)])) t ∧ _
            by_cases hc6 : c0 = (45 : Int32)
            · refine own_go (fun _ => XS.icmpNo X0.here hx rfl (hb hby d18_51) rfl (teq hc6).2) ?_
              refine own_go (fun _ => XS.iconst X0.here hx rfl (hb hby d18_54)) ?_
              refine own_go (fun _ => XS.goto X0.here hx rfl (pc0 := 55) (pc' := 59) rfl (hb hby d18_55) (by decide) (by decide)) ?_
              show ∃ t o, Steps p.tables e below (s₁.setTop (mkF m 59 #[.val (.int c0)] [(.int (1 : Int32))])) t ∧ _
              obtain ⟨fs, hr, hrun, hended, hW, hsame⟩ := X0.leave (v := some (.int (1 : Int32))) (fun h => by rw [Bd.returns] at h; cases h)
              refine ⟨_, _, ?_, hrun, hended, _, _, rfl, ?_, ⟨_, rfl⟩, hW, hsame.mono (by decide) (by decide)⟩
              · exact retN X0 hx (t := .boolean) Bd.returns (by simp) (hb hby d18_59) hr
              · show Q_rmIs Z _ h0 n0 _ s₁.heap _
                rw [e0]
                exact ⟨rfl, N0, rfl⟩
            · refine own_go (fun _ => XS.icmpYes X0.here hx rfl (pc0 := 51) (pc' := 58) rfl (hb hby d18_51) rfl (feq hc6).2 (by decide) (by decide)) ?_
              refine own_go (fun _ => XS.iconst X0.here hx rfl (hb hby d18_58)) ?_
              show ∃ t o, Steps p.tables e below (s₁.setTop (mkF m 59 #[.val (.int c0)] [(.int (0 : Int32))])) t ∧ _
              obtain ⟨fs, hr, hrun, hended, hW, hsame⟩ := X0.leave (v := some (.int (0 : Int32))) (fun h => by rw [Bd.returns] at h; cases h)
              refine ⟨_, _, ?_, hrun, hended, _, _, rfl, ?_, ⟨_, rfl⟩, hW, hsame.mono (by decide) (by decide)⟩
              · exact retN X0 hx (t := .boolean) Bd.returns (by simp) (hb hby d18_59) hr
              · show Q_rmIs Z _ h0 n0 _ s₁.heap _
                rw [e0]
                exact ⟨(by exfalso; unfold own_ok at hok; have z65 : (65 : Int32).toInt = 65 := rfl; have z90 : (90 : Int32).toInt = 90 := rfl; have z97 : (97 : Int32).toInt = 97 := rfl; have z122 : (122 : Int32).toInt = 122 := rfl; have z48 : (48 : Int32).toInt = 48 := rfl; have z57 : (57 : Int32).toInt = 57 := rfl; simp only [Int32.lt_iff_toInt_lt] at hc1 hc2 hc3; have yhc4 : c0.toInt ≠ 46 := fun q => hc4 (Int32.toInt_inj.mp q); have yhc5 : c0.toInt ≠ 95 := fun q => hc5 (Int32.toInt_inj.mp q); have yhc6 : c0.toInt ≠ 45 := fun q => hc6 (Int32.toInt_inj.mp q); omega), N0, rfl⟩
      · refine own_go (fun _ => XS.icmpNo X0.here hx rfl (hb hby d18_27) rfl (flt hc3).1) ?_
        refine own_go (fun _ => XS.iloadN X0.here hx rfl (hb hby d18_30) rfl) ?_
        refine own_go (fun _ => XS.bipush X0.here hx rfl (hb hby d18_31)) ?_
        show ∃ t o, Steps p.tables e below (s₁.setTop (mkF m 33 #[.val (.int c0)] [(.int (57 : Int32)), (.int c0)])) t ∧ _
        by_cases hc7 : (57 : Int32) < c0
        · refine own_go (fun _ => XS.icmpNo X0.here hx rfl (hb hby d18_33) rfl (tlt hc7).2.2.2) ?_
          refine own_go (fun _ => XS.iloadN X0.here hx rfl (hb hby d18_36) rfl) ?_
          refine own_go (fun _ => XS.bipush X0.here hx rfl (hb hby d18_37)) ?_
          show ∃ t o, Steps p.tables e below (s₁.setTop (mkF m 39 #[.val (.int c0)] [(.int (46 : Int32)), (.int c0)])) t ∧ _
          by_cases hc8 : c0 = (46 : Int32)
          · refine own_go (fun _ => XS.icmpYes X0.here hx rfl (pc0 := 39) (pc' := 54) rfl (hb hby d18_39) rfl (teq hc8).1 (by decide) (by decide)) ?_
            refine own_go (fun _ => XS.iconst X0.here hx rfl (hb hby d18_54)) ?_
            refine own_go (fun _ => XS.goto X0.here hx rfl (pc0 := 55) (pc' := 59) rfl (hb hby d18_55) (by decide) (by decide)) ?_
            show ∃ t o, Steps p.tables e below (s₁.setTop (mkF m 59 #[.val (.int c0)] [(.int (1 : Int32))])) t ∧ _
            obtain ⟨fs, hr, hrun, hended, hW, hsame⟩ := X0.leave (v := some (.int (1 : Int32))) (fun h => by rw [Bd.returns] at h; cases h)
            refine ⟨_, _, ?_, hrun, hended, _, _, rfl, ?_, ⟨_, rfl⟩, hW, hsame.mono (by decide) (by decide)⟩
            · exact retN X0 hx (t := .boolean) Bd.returns (by simp) (hb hby d18_59) hr
            · show Q_rmIs Z _ h0 n0 _ s₁.heap _
              rw [e0]
              exact ⟨rfl, N0, rfl⟩
          · refine own_go (fun _ => XS.icmpNo X0.here hx rfl (hb hby d18_39) rfl (feq hc8).1) ?_
            refine own_go (fun _ => XS.iloadN X0.here hx rfl (hb hby d18_42) rfl) ?_
            refine own_go (fun _ => XS.bipush X0.here hx rfl (hb hby d18_43)) ?_
            show ∃ t o, Steps p.tables e below (s₁.setTop (mkF m 45 #[.val (.int c0)] [(.int (95 : Int32)), (.int c0)])) t ∧ _
            by_cases hc9 : c0 = (95 : Int32)
            · refine own_go (fun _ => XS.icmpYes X0.here hx rfl (pc0 := 45) (pc' := 54) rfl (hb hby d18_45) rfl (teq hc9).1 (by decide) (by decide)) ?_
              refine own_go (fun _ => XS.iconst X0.here hx rfl (hb hby d18_54)) ?_
              refine own_go (fun _ => XS.goto X0.here hx rfl (pc0 := 55) (pc' := 59) rfl (hb hby d18_55) (by decide) (by decide)) ?_
              show ∃ t o, Steps p.tables e below (s₁.setTop (mkF m 59 #[.val (.int c0)] [(.int (1 : Int32))])) t ∧ _
              obtain ⟨fs, hr, hrun, hended, hW, hsame⟩ := X0.leave (v := some (.int (1 : Int32))) (fun h => by rw [Bd.returns] at h; cases h)
              refine ⟨_, _, ?_, hrun, hended, _, _, rfl, ?_, ⟨_, rfl⟩, hW, hsame.mono (by decide) (by decide)⟩
              · exact retN X0 hx (t := .boolean) Bd.returns (by simp) (hb hby d18_59) hr
              · show Q_rmIs Z _ h0 n0 _ s₁.heap _
                rw [e0]
                exact ⟨rfl, N0, rfl⟩
            · refine own_go (fun _ => XS.icmpNo X0.here hx rfl (hb hby d18_45) rfl (feq hc9).1) ?_
              refine own_go (fun _ => XS.iloadN X0.here hx rfl (hb hby d18_48) rfl) ?_
              refine own_go (fun _ => XS.bipush X0.here hx rfl (hb hby d18_49)) ?_
              show ∃ t o, Steps p.tables e below (s₁.setTop (mkF m 51 #[.val (.int c0)] [(.int (45 : Int32)), (.int c0)])) t ∧ _
              by_cases hc10 : c0 = (45 : Int32)
              · refine own_go (fun _ => XS.icmpNo X0.here hx rfl (hb hby d18_51) rfl (teq hc10).2) ?_
                refine own_go (fun _ => XS.iconst X0.here hx rfl (hb hby d18_54)) ?_
                refine own_go (fun _ => XS.goto X0.here hx rfl (pc0 := 55) (pc' := 59) rfl (hb hby d18_55) (by decide) (by decide)) ?_
                show ∃ t o, Steps p.tables e below (s₁.setTop (mkF m 59 #[.val (.int c0)] [(.int (1 : Int32))])) t ∧ _
                obtain ⟨fs, hr, hrun, hended, hW, hsame⟩ := X0.leave (v := some (.int (1 : Int32))) (fun h => by rw [Bd.returns] at h; cases h)
                refine ⟨_, _, ?_, hrun, hended, _, _, rfl, ?_, ⟨_, rfl⟩, hW, hsame.mono (by decide) (by decide)⟩
                · exact retN X0 hx (t := .boolean) Bd.returns (by simp) (hb hby d18_59) hr
                · show Q_rmIs Z _ h0 n0 _ s₁.heap _
                  rw [e0]
                  exact ⟨rfl, N0, rfl⟩
              · refine own_go (fun _ => XS.icmpYes X0.here hx rfl (pc0 := 51) (pc' := 58) rfl (hb hby d18_51) rfl (feq hc10).2 (by decide) (by decide)) ?_
                refine own_go (fun _ => XS.iconst X0.here hx rfl (hb hby d18_58)) ?_
                show ∃ t o, Steps p.tables e below (s₁.setTop (mkF m 59 #[.val (.int c0)] [(.int (0 : Int32))])) t ∧ _
                obtain ⟨fs, hr, hrun, hended, hW, hsame⟩ := X0.leave (v := some (.int (0 : Int32))) (fun h => by rw [Bd.returns] at h; cases h)
                refine ⟨_, _, ?_, hrun, hended, _, _, rfl, ?_, ⟨_, rfl⟩, hW, hsame.mono (by decide) (by decide)⟩
                · exact retN X0 hx (t := .boolean) Bd.returns (by simp) (hb hby d18_59) hr
                · show Q_rmIs Z _ h0 n0 _ s₁.heap _
                  rw [e0]
                  exact ⟨(by exfalso; unfold own_ok at hok; have z65 : (65 : Int32).toInt = 65 := rfl; have z90 : (90 : Int32).toInt = 90 := rfl; have z97 : (97 : Int32).toInt = 97 := rfl; have z122 : (122 : Int32).toInt = 122 := rfl; have z48 : (48 : Int32).toInt = 48 := rfl; have z57 : (57 : Int32).toInt = 57 := rfl; simp only [Int32.lt_iff_toInt_lt] at hc1 hc2 hc3 hc7; have yhc8 : c0.toInt ≠ 46 := fun q => hc8 (Int32.toInt_inj.mp q); have yhc9 : c0.toInt ≠ 95 := fun q => hc9 (Int32.toInt_inj.mp q); have yhc10 : c0.toInt ≠ 45 := fun q => hc10 (Int32.toInt_inj.mp q); omega), N0, rfl⟩
        · refine own_go (fun _ => XS.icmpYes X0.here hx rfl (pc0 := 33) (pc' := 54) rfl (hb hby d18_33) rfl (flt hc7).2.2.2 (by decide) (by decide)) ?_
          refine own_go (fun _ => XS.iconst X0.here hx rfl (hb hby d18_54)) ?_
          refine own_go (fun _ => XS.goto X0.here hx rfl (pc0 := 55) (pc' := 59) rfl (hb hby d18_55) (by decide) (by decide)) ?_
          show ∃ t o, Steps p.tables e below (s₁.setTop (mkF m 59 #[.val (.int c0)] [(.int (1 : Int32))])) t ∧ _
          obtain ⟨fs, hr, hrun, hended, hW, hsame⟩ := X0.leave (v := some (.int (1 : Int32))) (fun h => by rw [Bd.returns] at h; cases h)
          refine ⟨_, _, ?_, hrun, hended, _, _, rfl, ?_, ⟨_, rfl⟩, hW, hsame.mono (by decide) (by decide)⟩
          · exact retN X0 hx (t := .boolean) Bd.returns (by simp) (hb hby d18_59) hr
          · show Q_rmIs Z _ h0 n0 _ s₁.heap _
            rw [e0]
            exact ⟨rfl, N0, rfl⟩
    · refine own_go (fun _ => XS.icmpNo X0.here hx rfl (hb hby d18_15) rfl (flt hc2).1) ?_
      refine own_go (fun _ => XS.iloadN X0.here hx rfl (hb hby d18_18) rfl) ?_
      refine own_go (fun _ => XS.bipush X0.here hx rfl (hb hby d18_19)) ?_
      show ∃ t o, Steps p.tables e below (s₁.setTop (mkF m 21 #[.val (.int c0)] [(.int (122 : Int32)), (.int c0)])) t ∧ _
      by_cases hc11 : (122 : Int32) < c0
      · refine own_go (fun _ => XS.icmpNo X0.here hx rfl (hb hby d18_21) rfl (tlt hc11).2.2.2) ?_
        refine own_go (fun _ => XS.iloadN X0.here hx rfl (hb hby d18_24) rfl) ?_
        refine own_go (fun _ => XS.bipush X0.here hx rfl (hb hby d18_25)) ?_
        show ∃ t o, Steps p.tables e below (s₁.setTop (mkF m 27 #[.val (.int c0)] [(.int (48 : Int32)), (.int c0)])) t ∧ _
        by_cases hc12 : c0 < (48 : Int32)
        · refine own_go (fun _ => XS.icmpYes X0.here hx rfl (pc0 := 27) (pc' := 36) rfl (hb hby d18_27) rfl (tlt hc12).1 (by decide) (by decide)) ?_
          refine own_go (fun _ => XS.iloadN X0.here hx rfl (hb hby d18_36) rfl) ?_
          refine own_go (fun _ => XS.bipush X0.here hx rfl (hb hby d18_37)) ?_
          show ∃ t o, Steps p.tables e below (s₁.setTop (mkF m 39 #[.val (.int c0)] [(.int (46 : Int32)), (.int c0)])) t ∧ _
          by_cases hc13 : c0 = (46 : Int32)
          · refine own_go (fun _ => XS.icmpYes X0.here hx rfl (pc0 := 39) (pc' := 54) rfl (hb hby d18_39) rfl (teq hc13).1 (by decide) (by decide)) ?_
            refine own_go (fun _ => XS.iconst X0.here hx rfl (hb hby d18_54)) ?_
            refine own_go (fun _ => XS.goto X0.here hx rfl (pc0 := 55) (pc' := 59) rfl (hb hby d18_55) (by decide) (by decide)) ?_
            show ∃ t o, Steps p.tables e below (s₁.setTop (mkF m 59 #[.val (.int c0)] [(.int (1 : Int32))])) t ∧ _
            obtain ⟨fs, hr, hrun, hended, hW, hsame⟩ := X0.leave (v := some (.int (1 : Int32))) (fun h => by rw [Bd.returns] at h; cases h)
            refine ⟨_, _, ?_, hrun, hended, _, _, rfl, ?_, ⟨_, rfl⟩, hW, hsame.mono (by decide) (by decide)⟩
            · exact retN X0 hx (t := .boolean) Bd.returns (by simp) (hb hby d18_59) hr
            · show Q_rmIs Z _ h0 n0 _ s₁.heap _
              rw [e0]
              exact ⟨rfl, N0, rfl⟩
          · refine own_go (fun _ => XS.icmpNo X0.here hx rfl (hb hby d18_39) rfl (feq hc13).1) ?_
            refine own_go (fun _ => XS.iloadN X0.here hx rfl (hb hby d18_42) rfl) ?_
            refine own_go (fun _ => XS.bipush X0.here hx rfl (hb hby d18_43)) ?_
            show ∃ t o, Steps p.tables e below (s₁.setTop (mkF m 45 #[.val (.int c0)] [(.int (95 : Int32)), (.int c0)])) t ∧ _
            by_cases hc14 : c0 = (95 : Int32)
            · refine own_go (fun _ => XS.icmpYes X0.here hx rfl (pc0 := 45) (pc' := 54) rfl (hb hby d18_45) rfl (teq hc14).1 (by decide) (by decide)) ?_
              refine own_go (fun _ => XS.iconst X0.here hx rfl (hb hby d18_54)) ?_
              refine own_go (fun _ => XS.goto X0.here hx rfl (pc0 := 55) (pc' := 59) rfl (hb hby d18_55) (by decide) (by decide)) ?_
              show ∃ t o, Steps p.tables e below (s₁.setTop (mkF m 59 #[.val (.int c0)] [(.int (1 : Int32))])) t ∧ _
              obtain ⟨fs, hr, hrun, hended, hW, hsame⟩ := X0.leave (v := some (.int (1 : Int32))) (fun h => by rw [Bd.returns] at h; cases h)
              refine ⟨_, _, ?_, hrun, hended, _, _, rfl, ?_, ⟨_, rfl⟩, hW, hsame.mono (by decide) (by decide)⟩
              · exact retN X0 hx (t := .boolean) Bd.returns (by simp) (hb hby d18_59) hr
              · show Q_rmIs Z _ h0 n0 _ s₁.heap _
                rw [e0]
                exact ⟨rfl, N0, rfl⟩
            · refine own_go (fun _ => XS.icmpNo X0.here hx rfl (hb hby d18_45) rfl (feq hc14).1) ?_
              refine own_go (fun _ => XS.iloadN X0.here hx rfl (hb hby d18_48) rfl) ?_
              refine own_go (fun _ => XS.bipush X0.here hx rfl (hb hby d18_49)) ?_
              show ∃ t o, Steps p.tables e below (s₁.setTop (mkF m 51 #[.val (.int c0)] [(.int (45 : Int32)), (.int c0)])) t ∧ _
              by_cases hc15 : c0 = (45 : Int32)
              · refine own_go (fun _ => XS.icmpNo X0.here hx rfl (hb hby d18_51) rfl (teq hc15).2) ?_
                refine own_go (fun _ => XS.iconst X0.here hx rfl (hb hby d18_54)) ?_
                refine own_go (fun _ => XS.goto X0.here hx rfl (pc0 := 55) (pc' := 59) rfl (hb hby d18_55) (by decide) (by decide)) ?_
                show ∃ t o, Steps p.tables e below (s₁.setTop (mkF m 59 #[.val (.int c0)] [(.int (1 : Int32))])) t ∧ _
                obtain ⟨fs, hr, hrun, hended, hW, hsame⟩ := X0.leave (v := some (.int (1 : Int32))) (fun h => by rw [Bd.returns] at h; cases h)
                refine ⟨_, _, ?_, hrun, hended, _, _, rfl, ?_, ⟨_, rfl⟩, hW, hsame.mono (by decide) (by decide)⟩
                · exact retN X0 hx (t := .boolean) Bd.returns (by simp) (hb hby d18_59) hr
                · show Q_rmIs Z _ h0 n0 _ s₁.heap _
                  rw [e0]
                  exact ⟨rfl, N0, rfl⟩
              · refine own_go (fun _ => XS.icmpYes X0.here hx rfl (pc0 := 51) (pc' := 58) rfl (hb hby d18_51) rfl (feq hc15).2 (by decide) (by decide)) ?_
                refine own_go (fun _ => XS.iconst X0.here hx rfl (hb hby d18_58)) ?_
                show ∃ t o, Steps p.tables e below (s₁.setTop (mkF m 59 #[.val (.int c0)] [(.int (0 : Int32))])) t ∧ _
                obtain ⟨fs, hr, hrun, hended, hW, hsame⟩ := X0.leave (v := some (.int (0 : Int32))) (fun h => by rw [Bd.returns] at h; cases h)
                refine ⟨_, _, ?_, hrun, hended, _, _, rfl, ?_, ⟨_, rfl⟩, hW, hsame.mono (by decide) (by decide)⟩
                · exact retN X0 hx (t := .boolean) Bd.returns (by simp) (hb hby d18_59) hr
                · show Q_rmIs Z _ h0 n0 _ s₁.heap _
                  rw [e0]
                  exact ⟨(by exfalso; unfold own_ok at hok; have z65 : (65 : Int32).toInt = 65 := rfl; have z90 : (90 : Int32).toInt = 90 := rfl; have z97 : (97 : Int32).toInt = 97 := rfl; have z122 : (122 : Int32).toInt = 122 := rfl; have z48 : (48 : Int32).toInt = 48 := rfl; have z57 : (57 : Int32).toInt = 57 := rfl; simp only [Int32.lt_iff_toInt_lt] at hc1 hc2 hc11 hc12; have yhc13 : c0.toInt ≠ 46 := fun q => hc13 (Int32.toInt_inj.mp q); have yhc14 : c0.toInt ≠ 95 := fun q => hc14 (Int32.toInt_inj.mp q); have yhc15 : c0.toInt ≠ 45 := fun q => hc15 (Int32.toInt_inj.mp q); omega), N0, rfl⟩
        · refine own_go (fun _ => XS.icmpNo X0.here hx rfl (hb hby d18_27) rfl (flt hc12).1) ?_
          refine own_go (fun _ => XS.iloadN X0.here hx rfl (hb hby d18_30) rfl) ?_
          refine own_go (fun _ => XS.bipush X0.here hx rfl (hb hby d18_31)) ?_
          show ∃ t o, Steps p.tables e below (s₁.setTop (mkF m 33 #[.val (.int c0)] [(.int (57 : Int32)), (.int c0)])) t ∧ _
          by_cases hc16 : (57 : Int32) < c0
          · refine own_go (fun _ => XS.icmpNo X0.here hx rfl (hb hby d18_33) rfl (tlt hc16).2.2.2) ?_
            refine own_go (fun _ => XS.iloadN X0.here hx rfl (hb hby d18_36) rfl) ?_
            refine own_go (fun _ => XS.bipush X0.here hx rfl (hb hby d18_37)) ?_
            show ∃ t o, Steps p.tables e below (s₁.setTop (mkF m 39 #[.val (.int c0)] [(.int (46 : Int32)), (.int c0)])) t ∧ _
            by_cases hc17 : c0 = (46 : Int32)
            · refine own_go (fun _ => XS.icmpYes X0.here hx rfl (pc0 := 39) (pc' := 54) rfl (hb hby d18_39) rfl (teq hc17).1 (by decide) (by decide)) ?_
              refine own_go (fun _ => XS.iconst X0.here hx rfl (hb hby d18_54)) ?_
              refine own_go (fun _ => XS.goto X0.here hx rfl (pc0 := 55) (pc' := 59) rfl (hb hby d18_55) (by decide) (by decide)) ?_
              show ∃ t o, Steps p.tables e below (s₁.setTop (mkF m 59 #[.val (.int c0)] [(.int (1 : Int32))])) t ∧ _
              obtain ⟨fs, hr, hrun, hended, hW, hsame⟩ := X0.leave (v := some (.int (1 : Int32))) (fun h => by rw [Bd.returns] at h; cases h)
              refine ⟨_, _, ?_, hrun, hended, _, _, rfl, ?_, ⟨_, rfl⟩, hW, hsame.mono (by decide) (by decide)⟩
              · exact retN X0 hx (t := .boolean) Bd.returns (by simp) (hb hby d18_59) hr
              · show Q_rmIs Z _ h0 n0 _ s₁.heap _
                rw [e0]
                exact ⟨rfl, N0, rfl⟩
            · refine own_go (fun _ => XS.icmpNo X0.here hx rfl (hb hby d18_39) rfl (feq hc17).1) ?_
              refine own_go (fun _ => XS.iloadN X0.here hx rfl (hb hby d18_42) rfl) ?_
              refine own_go (fun _ => XS.bipush X0.here hx rfl (hb hby d18_43)) ?_
              show ∃ t o, Steps p.tables e below (s₁.setTop (mkF m 45 #[.val (.int c0)] [(.int (95 : Int32)), (.int c0)])) t ∧ _
              by_cases hc18 : c0 = (95 : Int32)
              · refine own_go (fun _ => XS.icmpYes X0.here hx rfl (pc0 := 45) (pc' := 54) rfl (hb hby d18_45) rfl (teq hc18).1 (by decide) (by decide)) ?_
                refine own_go (fun _ => XS.iconst X0.here hx rfl (hb hby d18_54)) ?_
                refine own_go (fun _ => XS.goto X0.here hx rfl (pc0 := 55) (pc' := 59) rfl (hb hby d18_55) (by decide) (by decide)) ?_
                show ∃ t o, Steps p.tables e below (s₁.setTop (mkF m 59 #[.val (.int c0)] [(.int (1 : Int32))])) t ∧ _
                obtain ⟨fs, hr, hrun, hended, hW, hsame⟩ := X0.leave (v := some (.int (1 : Int32))) (fun h => by rw [Bd.returns] at h; cases h)
                refine ⟨_, _, ?_, hrun, hended, _, _, rfl, ?_, ⟨_, rfl⟩, hW, hsame.mono (by decide) (by decide)⟩
                · exact retN X0 hx (t := .boolean) Bd.returns (by simp) (hb hby d18_59) hr
                · show Q_rmIs Z _ h0 n0 _ s₁.heap _
                  rw [e0]
                  exact ⟨rfl, N0, rfl⟩
              · refine own_go (fun _ => XS.icmpNo X0.here hx rfl (hb hby d18_45) rfl (feq hc18).1) ?_
                refine own_go (fun _ => XS.iloadN X0.here hx rfl (hb hby d18_48) rfl) ?_
                refine own_go (fun _ => XS.bipush X0.here hx rfl (hb hby d18_49)) ?_
                show ∃ t o, Steps p.tables e below (s₁.setTop (mkF m 51 #[.val (.int c0)] [(.int (45 : Int32)), (.int c0)])) t ∧ _
                by_cases hc19 : c0 = (45 : Int32)
                · refine own_go (fun _ => XS.icmpNo X0.here hx rfl (hb hby d18_51) rfl (teq hc19).2) ?_
                  refine own_go (fun _ => XS.iconst X0.here hx rfl (hb hby d18_54)) ?_
                  refine own_go (fun _ => XS.goto X0.here hx rfl (pc0 := 55) (pc' := 59) rfl (hb hby d18_55) (by decide) (by decide)) ?_
                  show ∃ t o, Steps p.tables e below (s₁.setTop (mkF m 59 #[.val (.int c0)] [(.int (1 : Int32))])) t ∧ _
                  obtain ⟨fs, hr, hrun, hended, hW, hsame⟩ := X0.leave (v := some (.int (1 : Int32))) (fun h => by rw [Bd.returns] at h; cases h)
                  refine ⟨_, _, ?_, hrun, hended, _, _, rfl, ?_, ⟨_, rfl⟩, hW, hsame.mono (by decide) (by decide)⟩
                  · exact retN X0 hx (t := .boolean) Bd.returns (by simp) (hb hby d18_59) hr
                  · show Q_rmIs Z _ h0 n0 _ s₁.heap _
                    rw [e0]
                    exact ⟨rfl, N0, rfl⟩
                · refine own_go (fun _ => XS.icmpYes X0.here hx rfl (pc0 := 51) (pc' := 58) rfl (hb hby d18_51) rfl (feq hc19).2 (by decide) (by decide)) ?_
                  refine own_go (fun _ => XS.iconst X0.here hx rfl (hb hby d18_58)) ?_
                  show ∃ t o, Steps p.tables e below (s₁.setTop (mkF m 59 #[.val (.int c0)] [(.int (0 : Int32))])) t ∧ _
                  obtain ⟨fs, hr, hrun, hended, hW, hsame⟩ := X0.leave (v := some (.int (0 : Int32))) (fun h => by rw [Bd.returns] at h; cases h)
                  refine ⟨_, _, ?_, hrun, hended, _, _, rfl, ?_, ⟨_, rfl⟩, hW, hsame.mono (by decide) (by decide)⟩
                  · exact retN X0 hx (t := .boolean) Bd.returns (by simp) (hb hby d18_59) hr
                  · show Q_rmIs Z _ h0 n0 _ s₁.heap _
                    rw [e0]
                    exact ⟨(by exfalso; unfold own_ok at hok; have z65 : (65 : Int32).toInt = 65 := rfl; have z90 : (90 : Int32).toInt = 90 := rfl; have z97 : (97 : Int32).toInt = 97 := rfl; have z122 : (122 : Int32).toInt = 122 := rfl; have z48 : (48 : Int32).toInt = 48 := rfl; have z57 : (57 : Int32).toInt = 57 := rfl; simp only [Int32.lt_iff_toInt_lt] at hc1 hc2 hc11 hc12 hc16; have yhc17 : c0.toInt ≠ 46 := fun q => hc17 (Int32.toInt_inj.mp q); have yhc18 : c0.toInt ≠ 95 := fun q => hc18 (Int32.toInt_inj.mp q); have yhc19 : c0.toInt ≠ 45 := fun q => hc19 (Int32.toInt_inj.mp q); omega), N0, rfl⟩
          · refine own_go (fun _ => XS.icmpYes X0.here hx rfl (pc0 := 33) (pc' := 54) rfl (hb hby d18_33) rfl (flt hc16).2.2.2 (by decide) (by decide)) ?_
            refine own_go (fun _ => XS.iconst X0.here hx rfl (hb hby d18_54)) ?_
            refine own_go (fun _ => XS.goto X0.here hx rfl (pc0 := 55) (pc' := 59) rfl (hb hby d18_55) (by decide) (by decide)) ?_
            show ∃ t o, Steps p.tables e below (s₁.setTop (mkF m 59 #[.val (.int c0)] [(.int (1 : Int32))])) t ∧ _
            obtain ⟨fs, hr, hrun, hended, hW, hsame⟩ := X0.leave (v := some (.int (1 : Int32))) (fun h => by rw [Bd.returns] at h; cases h)
            refine ⟨_, _, ?_, hrun, hended, _, _, rfl, ?_, ⟨_, rfl⟩, hW, hsame.mono (by decide) (by decide)⟩
            · exact retN X0 hx (t := .boolean) Bd.returns (by simp) (hb hby d18_59) hr
            · show Q_rmIs Z _ h0 n0 _ s₁.heap _
              rw [e0]
              exact ⟨rfl, N0, rfl⟩
      · refine own_go (fun _ => XS.icmpYes X0.here hx rfl (pc0 := 21) (pc' := 54) rfl (hb hby d18_21) rfl (flt hc11).2.2.2 (by decide) (by decide)) ?_
        refine own_go (fun _ => XS.iconst X0.here hx rfl (hb hby d18_54)) ?_
        refine own_go (fun _ => XS.goto X0.here hx rfl (pc0 := 55) (pc' := 59) rfl (hb hby d18_55) (by decide) (by decide)) ?_
        show ∃ t o, Steps p.tables e below (s₁.setTop (mkF m 59 #[.val (.int c0)] [(.int (1 : Int32))])) t ∧ _
        obtain ⟨fs, hr, hrun, hended, hW, hsame⟩ := X0.leave (v := some (.int (1 : Int32))) (fun h => by rw [Bd.returns] at h; cases h)
        refine ⟨_, _, ?_, hrun, hended, _, _, rfl, ?_, ⟨_, rfl⟩, hW, hsame.mono (by decide) (by decide)⟩
        · exact retN X0 hx (t := .boolean) Bd.returns (by simp) (hb hby d18_59) hr
        · show Q_rmIs Z _ h0 n0 _ s₁.heap _
          rw [e0]
          exact ⟨rfl, N0, rfl⟩
  · refine own_go (fun _ => XS.icmpNo X0.here hx rfl (hb hby d18_3) rfl (flt hc1).1) ?_
    refine own_go (fun _ => XS.iloadN X0.here hx rfl (hb hby d18_6) rfl) ?_
    refine own_go (fun _ => XS.bipush X0.here hx rfl (hb hby d18_7)) ?_
    show ∃ t o, Steps p.tables e below (s₁.setTop (mkF m 9 #[.val (.int c0)] [(.int (90 : Int32)), (.int c0)])) t ∧ _
    by_cases hc20 : (90 : Int32) < c0
    · refine own_go (fun _ => XS.icmpNo X0.here hx rfl (hb hby d18_9) rfl (tlt hc20).2.2.2) ?_
      refine own_go (fun _ => XS.iloadN X0.here hx rfl (hb hby d18_12) rfl) ?_
      refine own_go (fun _ => XS.bipush X0.here hx rfl (hb hby d18_13)) ?_
      show ∃ t o, Steps p.tables e below (s₁.setTop (mkF m 15 #[.val (.int c0)] [(.int (97 : Int32)), (.int c0)])) t ∧ _
      by_cases hc21 : c0 < (97 : Int32)
      · refine own_go (fun _ => XS.icmpYes X0.here hx rfl (pc0 := 15) (pc' := 24) rfl (hb hby d18_15) rfl (tlt hc21).1 (by decide) (by decide)) ?_
        refine own_go (fun _ => XS.iloadN X0.here hx rfl (hb hby d18_24) rfl) ?_
        refine own_go (fun _ => XS.bipush X0.here hx rfl (hb hby d18_25)) ?_
        show ∃ t o, Steps p.tables e below (s₁.setTop (mkF m 27 #[.val (.int c0)] [(.int (48 : Int32)), (.int c0)])) t ∧ _
        by_cases hc22 : c0 < (48 : Int32)
        · refine own_go (fun _ => XS.icmpYes X0.here hx rfl (pc0 := 27) (pc' := 36) rfl (hb hby d18_27) rfl (tlt hc22).1 (by decide) (by decide)) ?_
          refine own_go (fun _ => XS.iloadN X0.here hx rfl (hb hby d18_36) rfl) ?_
          refine own_go (fun _ => XS.bipush X0.here hx rfl (hb hby d18_37)) ?_
          show ∃ t o, Steps p.tables e below (s₁.setTop (mkF m 39 #[.val (.int c0)] [(.int (46 : Int32)), (.int c0)])) t ∧ _
          by_cases hc23 : c0 = (46 : Int32)
          · refine own_go (fun _ => XS.icmpYes X0.here hx rfl (pc0 := 39) (pc' := 54) rfl (hb hby d18_39) rfl (teq hc23).1 (by decide) (by decide)) ?_
            refine own_go (fun _ => XS.iconst X0.here hx rfl (hb hby d18_54)) ?_
            refine own_go (fun _ => XS.goto X0.here hx rfl (pc0 := 55) (pc' := 59) rfl (hb hby d18_55) (by decide) (by decide)) ?_
            show ∃ t o, Steps p.tables e below (s₁.setTop (mkF m 59 #[.val (.int c0)] [(.int (1 : Int32))])) t ∧ _
            obtain ⟨fs, hr, hrun, hended, hW, hsame⟩ := X0.leave (v := some (.int (1 : Int32))) (fun h => by rw [Bd.returns] at h; cases h)
            refine ⟨_, _, ?_, hrun, hended, _, _, rfl, ?_, ⟨_, rfl⟩, hW, hsame.mono (by decide) (by decide)⟩
            · exact retN X0 hx (t := .boolean) Bd.returns (by simp) (hb hby d18_59) hr
            · show Q_rmIs Z _ h0 n0 _ s₁.heap _
              rw [e0]
              exact ⟨rfl, N0, rfl⟩
          · refine own_go (fun _ => XS.icmpNo X0.here hx rfl (hb hby d18_39) rfl (feq hc23).1) ?_
            refine own_go (fun _ => XS.iloadN X0.here hx rfl (hb hby d18_42) rfl) ?_
            refine own_go (fun _ => XS.bipush X0.here hx rfl (hb hby d18_43)) ?_
            show ∃ t o, Steps p.tables e below (s₁.setTop (mkF m 45 #[.val (.int c0)] [(.int (95 : Int32)), (.int c0)])) t ∧ _
            by_cases hc24 : c0 = (95 : Int32)
            · refine own_go (fun _ => XS.icmpYes X0.here hx rfl (pc0 := 45) (pc' := 54) rfl (hb hby d18_45) rfl (teq hc24).1 (by decide) (by decide)) ?_
              refine own_go (fun _ => XS.iconst X0.here hx rfl (hb hby d18_54)) ?_
              refine own_go (fun _ => XS.goto X0.here hx rfl (pc0 := 55) (pc' := 59) rfl (hb hby d18_55) (by decide) (by decide)) ?_
              show ∃ t o, Steps p.tables e below (s₁.setTop (mkF m 59 #[.val (.int c0)] [(.int (1 : Int32))])) t ∧ _
              obtain ⟨fs, hr, hrun, hended, hW, hsame⟩ := X0.leave (v := some (.int (1 : Int32))) (fun h => by rw [Bd.returns] at h; cases h)
              refine ⟨_, _, ?_, hrun, hended, _, _, rfl, ?_, ⟨_, rfl⟩, hW, hsame.mono (by decide) (by decide)⟩
              · exact retN X0 hx (t := .boolean) Bd.returns (by simp) (hb hby d18_59) hr
              · show Q_rmIs Z _ h0 n0 _ s₁.heap _
                rw [e0]
                exact ⟨rfl, N0, rfl⟩
            · refine own_go (fun _ => XS.icmpNo X0.here hx rfl (hb hby d18_45) rfl (feq hc24).1) ?_
              refine own_go (fun _ => XS.iloadN X0.here hx rfl (hb hby d18_48) rfl) ?_
              refine own_go (fun _ => XS.bipush X0.here hx rfl (hb hby d18_49)) ?_
              show ∃ t o, Steps p.tables e below (s₁.setTop (mkF m 51 #[.val (.int c0)] [(.int (45 : Int32)), (.int c0)])) t ∧ _
              by_cases hc25 : c0 = (45 : Int32)
              · refine own_go (fun _ => XS.icmpNo X0.here hx rfl (hb hby d18_51) rfl (teq hc25).2) ?_
                refine own_go (fun _ => XS.iconst X0.here hx rfl (hb hby d18_54)) ?_
                refine own_go (fun _ => XS.goto X0.here hx rfl (pc0 := 55) (pc' := 59) rfl (hb hby d18_55) (by decide) (by decide)) ?_
                show ∃ t o, Steps p.tables e below (s₁.setTop (mkF m 59 #[.val (.int c0)] [(.int (1 : Int32))])) t ∧ _
                obtain ⟨fs, hr, hrun, hended, hW, hsame⟩ := X0.leave (v := some (.int (1 : Int32))) (fun h => by rw [Bd.returns] at h; cases h)
                refine ⟨_, _, ?_, hrun, hended, _, _, rfl, ?_, ⟨_, rfl⟩, hW, hsame.mono (by decide) (by decide)⟩
                · exact retN X0 hx (t := .boolean) Bd.returns (by simp) (hb hby d18_59) hr
                · show Q_rmIs Z _ h0 n0 _ s₁.heap _
                  rw [e0]
                  exact ⟨rfl, N0, rfl⟩
              · refine own_go (fun _ => XS.icmpYes X0.here hx rfl (pc0 := 51) (pc' := 58) rfl (hb hby d18_51) rfl (feq hc25).2 (by decide) (by decide)) ?_
                refine own_go (fun _ => XS.iconst X0.here hx rfl (hb hby d18_58)) ?_
                show ∃ t o, Steps p.tables e below (s₁.setTop (mkF m 59 #[.val (.int c0)] [(.int (0 : Int32))])) t ∧ _
                obtain ⟨fs, hr, hrun, hended, hW, hsame⟩ := X0.leave (v := some (.int (0 : Int32))) (fun h => by rw [Bd.returns] at h; cases h)
                refine ⟨_, _, ?_, hrun, hended, _, _, rfl, ?_, ⟨_, rfl⟩, hW, hsame.mono (by decide) (by decide)⟩
                · exact retN X0 hx (t := .boolean) Bd.returns (by simp) (hb hby d18_59) hr
                · show Q_rmIs Z _ h0 n0 _ s₁.heap _
                  rw [e0]
                  exact ⟨(by exfalso; unfold own_ok at hok; have z65 : (65 : Int32).toInt = 65 := rfl; have z90 : (90 : Int32).toInt = 90 := rfl; have z97 : (97 : Int32).toInt = 97 := rfl; have z122 : (122 : Int32).toInt = 122 := rfl; have z48 : (48 : Int32).toInt = 48 := rfl; have z57 : (57 : Int32).toInt = 57 := rfl; simp only [Int32.lt_iff_toInt_lt] at hc1 hc20 hc21 hc22; have yhc23 : c0.toInt ≠ 46 := fun q => hc23 (Int32.toInt_inj.mp q); have yhc24 : c0.toInt ≠ 95 := fun q => hc24 (Int32.toInt_inj.mp q); have yhc25 : c0.toInt ≠ 45 := fun q => hc25 (Int32.toInt_inj.mp q); omega), N0, rfl⟩
        · refine own_go (fun _ => XS.icmpNo X0.here hx rfl (hb hby d18_27) rfl (flt hc22).1) ?_
          refine own_go (fun _ => XS.iloadN X0.here hx rfl (hb hby d18_30) rfl) ?_
          refine own_go (fun _ => XS.bipush X0.here hx rfl (hb hby d18_31)) ?_
          show ∃ t o, Steps p.tables e below (s₁.setTop (mkF m 33 #[.val (.int c0)] [(.int (57 : Int32)), (.int c0)])) t ∧ _
          by_cases hc26 : (57 : Int32) < c0
          · refine own_go (fun _ => XS.icmpNo X0.here hx rfl (hb hby d18_33) rfl (tlt hc26).2.2.2) ?_
            refine own_go (fun _ => XS.iloadN X0.here hx rfl (hb hby d18_36) rfl) ?_
            refine own_go (fun _ => XS.bipush X0.here hx rfl (hb hby d18_37)) ?_
            show ∃ t o, Steps p.tables e below (s₁.setTop (mkF m 39 #[.val (.int c0)] [(.int (46 : Int32)), (.int c0)])) t ∧ _
            by_cases hc27 : c0 = (46 : Int32)
            · refine own_go (fun _ => XS.icmpYes X0.here hx rfl (pc0 := 39) (pc' := 54) rfl (hb hby d18_39) rfl (teq hc27).1 (by decide) (by decide)) ?_
              refine own_go (fun _ => XS.iconst X0.here hx rfl (hb hby d18_54)) ?_
              refine own_go (fun _ => XS.goto X0.here hx rfl (pc0 := 55) (pc' := 59) rfl (hb hby d18_55) (by decide) (by decide)) ?_
              show ∃ t o, Steps p.tables e below (s₁.setTop (mkF m 59 #[.val (.int c0)] [(.int (1 : Int32))])) t ∧ _
              obtain ⟨fs, hr, hrun, hended, hW, hsame⟩ := X0.leave (v := some (.int (1 : Int32))) (fun h => by rw [Bd.returns] at h; cases h)
              refine ⟨_, _, ?_, hrun, hended, _, _, rfl, ?_, ⟨_, rfl⟩, hW, hsame.mono (by decide) (by decide)⟩
              · exact retN X0 hx (t := .boolean) Bd.returns (by simp) (hb hby d18_59) hr
              · show Q_rmIs Z _ h0 n0 _ s₁.heap _
                rw [e0]
                exact ⟨rfl, N0, rfl⟩
            · refine own_go (fun _ => XS.icmpNo X0.here hx rfl (hb hby d18_39) rfl (feq hc27).1) ?_
              refine own_go (fun _ => XS.iloadN X0.here hx rfl (hb hby d18_42) rfl) ?_
              refine own_go (fun _ => XS.bipush X0.here hx rfl (hb hby d18_43)) ?_
              show ∃ t o, Steps p.tables e below (s₁.setTop (mkF m 45 #[.val (.int c0)] [(.int (95 : Int32)), (.int c0)])) t ∧ _
              by_cases hc28 : c0 = (95 : Int32)
              · refine own_go (fun _ => XS.icmpYes X0.here hx rfl (pc0 := 45) (pc' := 54) rfl (hb hby d18_45) rfl (teq hc28).1 (by decide) (by decide)) ?_
                refine own_go (fun _ => XS.iconst X0.here hx rfl (hb hby d18_54)) ?_
                refine own_go (fun _ => XS.goto X0.here hx rfl (pc0 := 55) (pc' := 59) rfl (hb hby d18_55) (by decide) (by decide)) ?_
                show ∃ t o, Steps p.tables e below (s₁.setTop (mkF m 59 #[.val (.int c0)] [(.int (1 : Int32))])) t ∧ _
                obtain ⟨fs, hr, hrun, hended, hW, hsame⟩ := X0.leave (v := some (.int (1 : Int32))) (fun h => by rw [Bd.returns] at h; cases h)
                refine ⟨_, _, ?_, hrun, hended, _, _, rfl, ?_, ⟨_, rfl⟩, hW, hsame.mono (by decide) (by decide)⟩
                · exact retN X0 hx (t := .boolean) Bd.returns (by simp) (hb hby d18_59) hr
                · show Q_rmIs Z _ h0 n0 _ s₁.heap _
                  rw [e0]
                  exact ⟨rfl, N0, rfl⟩
              · refine own_go (fun _ => XS.icmpNo X0.here hx rfl (hb hby d18_45) rfl (feq hc28).1) ?_
                refine own_go (fun _ => XS.iloadN X0.here hx rfl (hb hby d18_48) rfl) ?_
                refine own_go (fun _ => XS.bipush X0.here hx rfl (hb hby d18_49)) ?_
                show ∃ t o, Steps p.tables e below (s₁.setTop (mkF m 51 #[.val (.int c0)] [(.int (45 : Int32)), (.int c0)])) t ∧ _
                by_cases hc29 : c0 = (45 : Int32)
                · refine own_go (fun _ => XS.icmpNo X0.here hx rfl (hb hby d18_51) rfl (teq hc29).2) ?_
                  refine own_go (fun _ => XS.iconst X0.here hx rfl (hb hby d18_54)) ?_
                  refine own_go (fun _ => XS.goto X0.here hx rfl (pc0 := 55) (pc' := 59) rfl (hb hby d18_55) (by decide) (by decide)) ?_
                  show ∃ t o, Steps p.tables e below (s₁.setTop (mkF m 59 #[.val (.int c0)] [(.int (1 : Int32))])) t ∧ _
                  obtain ⟨fs, hr, hrun, hended, hW, hsame⟩ := X0.leave (v := some (.int (1 : Int32))) (fun h => by rw [Bd.returns] at h; cases h)
                  refine ⟨_, _, ?_, hrun, hended, _, _, rfl, ?_, ⟨_, rfl⟩, hW, hsame.mono (by decide) (by decide)⟩
                  · exact retN X0 hx (t := .boolean) Bd.returns (by simp) (hb hby d18_59) hr
                  · show Q_rmIs Z _ h0 n0 _ s₁.heap _
                    rw [e0]
                    exact ⟨rfl, N0, rfl⟩
                · refine own_go (fun _ => XS.icmpYes X0.here hx rfl (pc0 := 51) (pc' := 58) rfl (hb hby d18_51) rfl (feq hc29).2 (by decide) (by decide)) ?_
                  refine own_go (fun _ => XS.iconst X0.here hx rfl (hb hby d18_58)) ?_
                  show ∃ t o, Steps p.tables e below (s₁.setTop (mkF m 59 #[.val (.int c0)] [(.int (0 : Int32))])) t ∧ _
                  obtain ⟨fs, hr, hrun, hended, hW, hsame⟩ := X0.leave (v := some (.int (0 : Int32))) (fun h => by rw [Bd.returns] at h; cases h)
                  refine ⟨_, _, ?_, hrun, hended, _, _, rfl, ?_, ⟨_, rfl⟩, hW, hsame.mono (by decide) (by decide)⟩
                  · exact retN X0 hx (t := .boolean) Bd.returns (by simp) (hb hby d18_59) hr
                  · show Q_rmIs Z _ h0 n0 _ s₁.heap _
                    rw [e0]
                    exact ⟨(by exfalso; unfold own_ok at hok; have z65 : (65 : Int32).toInt = 65 := rfl; have z90 : (90 : Int32).toInt = 90 := rfl; have z97 : (97 : Int32).toInt = 97 := rfl; have z122 : (122 : Int32).toInt = 122 := rfl; have z48 : (48 : Int32).toInt = 48 := rfl; have z57 : (57 : Int32).toInt = 57 := rfl; simp only [Int32.lt_iff_toInt_lt] at hc1 hc20 hc21 hc22 hc26; have yhc27 : c0.toInt ≠ 46 := fun q => hc27 (Int32.toInt_inj.mp q); have yhc28 : c0.toInt ≠ 95 := fun q => hc28 (Int32.toInt_inj.mp q); have yhc29 : c0.toInt ≠ 45 := fun q => hc29 (Int32.toInt_inj.mp q); omega), N0, rfl⟩
          · refine own_go (fun _ => XS.icmpYes X0.here hx rfl (pc0 := 33) (pc' := 54) rfl (hb hby d18_33) rfl (flt hc26).2.2.2 (by decide) (by decide)) ?_
            refine own_go (fun _ => XS.iconst X0.here hx rfl (hb hby d18_54)) ?_
            refine own_go (fun _ => XS.goto X0.here hx rfl (pc0 := 55) (pc' := 59) rfl (hb hby d18_55) (by decide) (by decide)) ?_
            show ∃ t o, Steps p.tables e below (s₁.setTop (mkF m 59 #[.val (.int c0)] [(.int (1 : Int32))])) t ∧ _
            obtain ⟨fs, hr, hrun, hended, hW, hsame⟩ := X0.leave (v := some (.int (1 : Int32))) (fun h => by rw [Bd.returns] at h; cases h)
            refine ⟨_, _, ?_, hrun, hended, _, _, rfl, ?_, ⟨_, rfl⟩, hW, hsame.mono (by decide) (by decide)⟩
            · exact retN X0 hx (t := .boolean) Bd.returns (by simp) (hb hby d18_59) hr
            · show Q_rmIs Z _ h0 n0 _ s₁.heap _
              rw [e0]
              exact ⟨rfl, N0, rfl⟩
      · refine own_go (fun _ => XS.icmpNo X0.here hx rfl (hb hby d18_15) rfl (flt hc21).1) ?_
        refine own_go (fun _ => XS.iloadN X0.here hx rfl (hb hby d18_18) rfl) ?_
        refine own_go (fun _ => XS.bipush X0.here hx rfl (hb hby d18_19)) ?_
        show ∃ t o, Steps p.tables e below (s₁.setTop (mkF m 21 #[.val (.int c0)] [(.int (122 : Int32)), (.int c0)])) t ∧ _
        by_cases hc30 : (122 : Int32) < c0
        · refine own_go (fun _ => XS.icmpNo X0.here hx rfl (hb hby d18_21) rfl (tlt hc30).2.2.2) ?_
          refine own_go (fun _ => XS.iloadN X0.here hx rfl (hb hby d18_24) rfl) ?_
          refine own_go (fun _ => XS.bipush X0.here hx rfl (hb hby d18_25)) ?_
          show ∃ t o, Steps p.tables e below (s₁.setTop (mkF m 27 #[.val (.int c0)] [(.int (48 : Int32)), (.int c0)])) t ∧ _
          by_cases hc31 : c0 < (48 : Int32)
          · refine own_go (fun _ => XS.icmpYes X0.here hx rfl (pc0 := 27) (pc' := 36) rfl (hb hby d18_27) rfl (tlt hc31).1 (by decide) (by decide)) ?_
            refine own_go (fun _ => XS.iloadN X0.here hx rfl (hb hby d18_36) rfl) ?_
            refine own_go (fun _ => XS.bipush X0.here hx rfl (hb hby d18_37)) ?_
            show ∃ t o, Steps p.tables e below (s₁.setTop (mkF m 39 #[.val (.int c0)] [(.int (46 : Int32)), (.int c0)])) t ∧ _
            by_cases hc32 : c0 = (46 : Int32)
            · refine own_go (fun _ => XS.icmpYes X0.here hx rfl (pc0 := 39) (pc' := 54) rfl (hb hby d18_39) rfl (teq hc32).1 (by decide) (by decide)) ?_
              refine own_go (fun _ => XS.iconst X0.here hx rfl (hb hby d18_54)) ?_
              refine own_go (fun _ => XS.goto X0.here hx rfl (pc0 := 55) (pc' := 59) rfl (hb hby d18_55) (by decide) (by decide)) ?_
              show ∃ t o, Steps p.tables e below (s₁.setTop (mkF m 59 #[.val (.int c0)] [(.int (1 : Int32))])) t ∧ _
              obtain ⟨fs, hr, hrun, hended, hW, hsame⟩ := X0.leave (v := some (.int (1 : Int32))) (fun h => by rw [Bd.returns] at h; cases h)
              refine ⟨_, _, ?_, hrun, hended, _, _, rfl, ?_, ⟨_, rfl⟩, hW, hsame.mono (by decide) (by decide)⟩
              · exact retN X0 hx (t := .boolean) Bd.returns (by simp) (hb hby d18_59) hr
              · show Q_rmIs Z _ h0 n0 _ s₁.heap _
                rw [e0]
                exact ⟨rfl, N0, rfl⟩
            · refine own_go (fun _ => XS.icmpNo X0.here hx rfl (hb hby d18_39) rfl (feq hc32).1) ?_
              refine own_go (fun _ => XS.iloadN X0.here hx rfl (hb hby d18_42) rfl) ?_
              refine own_go (fun _ => XS.bipush X0.here hx rfl (hb hby d18_43)) ?_
              show ∃ t o, Steps p.tables e below (s₁.setTop (mkF m 45 #[.val (.int c0)] [(.int (95 : Int32)), (.int c0)])) t ∧ _
              by_cases hc33 : c0 = (95 : Int32)
              · refine own_go (fun _ => XS.icmpYes X0.here hx rfl (pc0 := 45) (pc' := 54) rfl (hb hby d18_45) rfl (teq hc33).1 (by decide) (by decide)) ?_
                refine own_go (fun _ => XS.iconst X0.here hx rfl (hb hby d18_54)) ?_
                refine own_go (fun _ => XS.goto X0.here hx rfl (pc0 := 55) (pc' := 59) rfl (hb hby d18_55) (by decide) (by decide)) ?_
                show ∃ t o, Steps p.tables e below (s₁.setTop (mkF m 59 #[.val (.int c0)] [(.int (1 : Int32))])) t ∧ _
                obtain ⟨fs, hr, hrun, hended, hW, hsame⟩ := X0.leave (v := some (.int (1 : Int32))) (fun h => by rw [Bd.returns] at h; cases h)
                refine ⟨_, _, ?_, hrun, hended, _, _, rfl, ?_, ⟨_, rfl⟩, hW, hsame.mono (by decide) (by decide)⟩
                · exact retN X0 hx (t := .boolean) Bd.returns (by simp) (hb hby d18_59) hr
                · show Q_rmIs Z _ h0 n0 _ s₁.heap _
                  rw [e0]
                  exact ⟨rfl, N0, rfl⟩
              · refine own_go (fun _ => XS.icmpNo X0.here hx rfl (hb hby d18_45) rfl (feq hc33).1) ?_
                refine own_go (fun _ => XS.iloadN X0.here hx rfl (hb hby d18_48) rfl) ?_
                refine own_go (fun _ => XS.bipush X0.here hx rfl (hb hby d18_49)) ?_
                show ∃ t o, Steps p.tables e below (s₁.setTop (mkF m 51 #[.val (.int c0)] [(.int (45 : Int32)), (.int c0)])) t ∧ _
                by_cases hc34 : c0 = (45 : Int32)
                · refine own_go (fun _ => XS.icmpNo X0.here hx rfl (hb hby d18_51) rfl (teq hc34).2) ?_
                  refine own_go (fun _ => XS.iconst X0.here hx rfl (hb hby d18_54)) ?_
                  refine own_go (fun _ => XS.goto X0.here hx rfl (pc0 := 55) (pc' := 59) rfl (hb hby d18_55) (by decide) (by decide)) ?_
                  show ∃ t o, Steps p.tables e below (s₁.setTop (mkF m 59 #[.val (.int c0)] [(.int (1 : Int32))])) t ∧ _
                  obtain ⟨fs, hr, hrun, hended, hW, hsame⟩ := X0.leave (v := some (.int (1 : Int32))) (fun h => by rw [Bd.returns] at h; cases h)
                  refine ⟨_, _, ?_, hrun, hended, _, _, rfl, ?_, ⟨_, rfl⟩, hW, hsame.mono (by decide) (by decide)⟩
                  · exact retN X0 hx (t := .boolean) Bd.returns (by simp) (hb hby d18_59) hr
                  · show Q_rmIs Z _ h0 n0 _ s₁.heap _
                    rw [e0]
                    exact ⟨rfl, N0, rfl⟩
                · refine own_go (fun _ => XS.icmpYes X0.here hx rfl (pc0 := 51) (pc' := 58) rfl (hb hby d18_51) rfl (feq hc34).2 (by decide) (by decide)) ?_
                  refine own_go (fun _ => XS.iconst X0.here hx rfl (hb hby d18_58)) ?_
                  show ∃ t o, Steps p.tables e below (s₁.setTop (mkF m 59 #[.val (.int c0)] [(.int (0 : Int32))])) t ∧ _
                  obtain ⟨fs, hr, hrun, hended, hW, hsame⟩ := X0.leave (v := some (.int (0 : Int32))) (fun h => by rw [Bd.returns] at h; cases h)
                  refine ⟨_, _, ?_, hrun, hended, _, _, rfl, ?_, ⟨_, rfl⟩, hW, hsame.mono (by decide) (by decide)⟩
                  · exact retN X0 hx (t := .boolean) Bd.returns (by simp) (hb hby d18_59) hr
                  · show Q_rmIs Z _ h0 n0 _ s₁.heap _
                    rw [e0]
                    exact ⟨(by exfalso; unfold own_ok at hok; have z65 : (65 : Int32).toInt = 65 := rfl; have z90 : (90 : Int32).toInt = 90 := rfl; have z97 : (97 : Int32).toInt = 97 := rfl; have z122 : (122 : Int32).toInt = 122 := rfl; have z48 : (48 : Int32).toInt = 48 := rfl; have z57 : (57 : Int32).toInt = 57 := rfl; simp only [Int32.lt_iff_toInt_lt] at hc1 hc20 hc21 hc30 hc31; have yhc32 : c0.toInt ≠ 46 := fun q => hc32 (Int32.toInt_inj.mp q); have yhc33 : c0.toInt ≠ 95 := fun q => hc33 (Int32.toInt_inj.mp q); have yhc34 : c0.toInt ≠ 45 := fun q => hc34 (Int32.toInt_inj.mp q); omega), N0, rfl⟩
          · refine own_go (fun _ => XS.icmpNo X0.here hx rfl (hb hby d18_27) rfl (flt hc31).1) ?_
            refine own_go (fun _ => XS.iloadN X0.here hx rfl (hb hby d18_30) rfl) ?_
            refine own_go (fun _ => XS.bipush X0.here hx rfl (hb hby d18_31)) ?_
            show ∃ t o, Steps p.tables e below (s₁.setTop (mkF m 33 #[.val (.int c0)] [(.int (57 : Int32)), (.int c0)])) t ∧ _
            by_cases hc35 : (57 : Int32) < c0
            · refine own_go (fun _ => XS.icmpNo X0.here hx rfl (hb hby d18_33) rfl (tlt hc35).2.2.2) ?_
              refine own_go (fun _ => XS.iloadN X0.here hx rfl (hb hby d18_36) rfl) ?_
              refine own_go (fun _ => XS.bipush X0.here hx rfl (hb hby d18_37)) ?_
              show ∃ t o, Steps p.tables e below (s₁.setTop (mkF m 39 #[.val (.int c0)] [(.int (46 : Int32)), (.int c0)])) t ∧ _
              by_cases hc36 : c0 = (46 : Int32)
              · refine own_go (fun _ => XS.icmpYes X0.here hx rfl (pc0 := 39) (pc' := 54) rfl (hb hby d18_39) rfl (teq hc36).1 (by decide) (by decide)) ?_
                refine own_go (fun _ => XS.iconst X0.here hx rfl (hb hby d18_54)) ?_
                refine own_go (fun _ => XS.goto X0.here hx rfl (pc0 := 55) (pc' := 59) rfl (hb hby d18_55) (by decide) (by decide)) ?_
                show ∃ t o, Steps p.tables e below (s₁.setTop (mkF m 59 #[.val (.int c0)] [(.int (1 : Int32))])) t ∧ _
                obtain ⟨fs, hr, hrun, hended, hW, hsame⟩ := X0.leave (v := some (.int (1 : Int32))) (fun h => by rw [Bd.returns] at h; cases h)
                refine ⟨_, _, ?_, hrun, hended, _, _, rfl, ?_, ⟨_, rfl⟩, hW, hsame.mono (by decide) (by decide)⟩
                · exact retN X0 hx (t := .boolean) Bd.returns (by simp) (hb hby d18_59) hr
                · show Q_rmIs Z _ h0 n0 _ s₁.heap _
                  rw [e0]
                  exact ⟨rfl, N0, rfl⟩
              · refine own_go (fun _ => XS.icmpNo X0.here hx rfl (hb hby d18_39) rfl (feq hc36).1) ?_
                refine own_go (fun _ => XS.iloadN X0.here hx rfl (hb hby d18_42) rfl) ?_
                refine own_go (fun _ => XS.bipush X0.here hx rfl (hb hby d18_43)) ?_
                show ∃ t o, Steps p.tables e below (s₁.setTop (mkF m 45 #[.val (.int c0)] [(.int (95 : Int32)), (.int c0)])) t ∧ _
                by_cases hc37 : c0 = (95 : Int32)
                · refine own_go (fun _ => XS.icmpYes X0.here hx rfl (pc0 := 45) (pc' := 54) rfl (hb hby d18_45) rfl (teq hc37).1 (by decide) (by decide)) ?_
                  refine own_go (fun _ => XS.iconst X0.here hx rfl (hb hby d18_54)) ?_
                  refine own_go (fun _ => XS.goto X0.here hx rfl (pc0 := 55) (pc' := 59) rfl (hb hby d18_55) (by decide) (by decide)) ?_
                  show ∃ t o, Steps p.tables e below (s₁.setTop (mkF m 59 #[.val (.int c0)] [(.int (1 : Int32))])) t ∧ _
                  obtain ⟨fs, hr, hrun, hended, hW, hsame⟩ := X0.leave (v := some (.int (1 : Int32))) (fun h => by rw [Bd.returns] at h; cases h)
                  refine ⟨_, _, ?_, hrun, hended, _, _, rfl, ?_, ⟨_, rfl⟩, hW, hsame.mono (by decide) (by decide)⟩
                  · exact retN X0 hx (t := .boolean) Bd.returns (by simp) (hb hby d18_59) hr
                  · show Q_rmIs Z _ h0 n0 _ s₁.heap _
                    rw [e0]
                    exact ⟨rfl, N0, rfl⟩
                · refine own_go (fun _ => XS.icmpNo X0.here hx rfl (hb hby d18_45) rfl (feq hc37).1) ?_
                  refine own_go (fun _ => XS.iloadN X0.here hx rfl (hb hby d18_48) rfl) ?_
                  refine own_go (fun _ => XS.bipush X0.here hx rfl (hb hby d18_49)) ?_
                  show ∃ t o, Steps p.tables e below (s₁.setTop (mkF m 51 #[.val (.int c0)] [(.int (45 : Int32)), (.int c0)])) t ∧ _
                  by_cases hc38 : c0 = (45 : Int32)
                  · refine own_go (fun _ => XS.icmpNo X0.here hx rfl (hb hby d18_51) rfl (teq hc38).2) ?_
                    refine own_go (fun _ => XS.iconst X0.here hx rfl (hb hby d18_54)) ?_
                    refine own_go (fun _ => XS.goto X0.here hx rfl (pc0 := 55) (pc' := 59) rfl (hb hby d18_55) (by decide) (by decide)) ?_
                    show ∃ t o, Steps p.tables e below (s₁.setTop (mkF m 59 #[.val (.int c0)] [(.int (1 : Int32))])) t ∧ _
                    obtain ⟨fs, hr, hrun, hended, hW, hsame⟩ := X0.leave (v := some (.int (1 : Int32))) (fun h => by rw [Bd.returns] at h; cases h)
                    refine ⟨_, _, ?_, hrun, hended, _, _, rfl, ?_, ⟨_, rfl⟩, hW, hsame.mono (by decide) (by decide)⟩
                    · exact retN X0 hx (t := .boolean) Bd.returns (by simp) (hb hby d18_59) hr
                    · show Q_rmIs Z _ h0 n0 _ s₁.heap _
                      rw [e0]
                      exact ⟨rfl, N0, rfl⟩
                  · refine own_go (fun _ => XS.icmpYes X0.here hx rfl (pc0 := 51) (pc' := 58) rfl (hb hby d18_51) rfl (feq hc38).2 (by decide) (by decide)) ?_
                    refine own_go (fun _ => XS.iconst X0.here hx rfl (hb hby d18_58)) ?_
                    show ∃ t o, Steps p.tables e below (s₁.setTop (mkF m 59 #[.val (.int c0)] [(.int (0 : Int32))])) t ∧ _
                    obtain ⟨fs, hr, hrun, hended, hW, hsame⟩ := X0.leave (v := some (.int (0 : Int32))) (fun h => by rw [Bd.returns] at h; cases h)
                    refine ⟨_, _, ?_, hrun, hended, _, _, rfl, ?_, ⟨_, rfl⟩, hW, hsame.mono (by decide) (by decide)⟩
                    · exact retN X0 hx (t := .boolean) Bd.returns (by simp) (hb hby d18_59) hr
                    · show Q_rmIs Z _ h0 n0 _ s₁.heap _
                      rw [e0]
                      exact ⟨(by exfalso; unfold own_ok at hok; have z65 : (65 : Int32).toInt = 65 := rfl; have z90 : (90 : Int32).toInt = 90 := rfl; have z97 : (97 : Int32).toInt = 97 := rfl; have z122 : (122 : Int32).toInt = 122 := rfl; have z48 : (48 : Int32).toInt = 48 := rfl; have z57 : (57 : Int32).toInt = 57 := rfl; simp only [Int32.lt_iff_toInt_lt] at hc1 hc20 hc21 hc30 hc31 hc35; have yhc36 : c0.toInt ≠ 46 := fun q => hc36 (Int32.toInt_inj.mp q); have yhc37 : c0.toInt ≠ 95 := fun q => hc37 (Int32.toInt_inj.mp q); have yhc38 : c0.toInt ≠ 45 := fun q => hc38 (Int32.toInt_inj.mp q); omega), N0, rfl⟩
            · refine own_go (fun _ => XS.icmpYes X0.here hx rfl (pc0 := 33) (pc' := 54) rfl (hb hby d18_33) rfl (flt hc35).2.2.2 (by decide) (by decide)) ?_
              refine own_go (fun _ => XS.iconst X0.here hx rfl (hb hby d18_54)) ?_
              refine own_go (fun _ => XS.goto X0.here hx rfl (pc0 := 55) (pc' := 59) rfl (hb hby d18_55) (by decide) (by decide)) ?_
              show ∃ t o, Steps p.tables e below (s₁.setTop (mkF m 59 #[.val (.int c0)] [(.int (1 : Int32))])) t ∧ _
              obtain ⟨fs, hr, hrun, hended, hW, hsame⟩ := X0.leave (v := some (.int (1 : Int32))) (fun h => by rw [Bd.returns] at h; cases h)
              refine ⟨_, _, ?_, hrun, hended, _, _, rfl, ?_, ⟨_, rfl⟩, hW, hsame.mono (by decide) (by decide)⟩
              · exact retN X0 hx (t := .boolean) Bd.returns (by simp) (hb hby d18_59) hr
              · show Q_rmIs Z _ h0 n0 _ s₁.heap _
                rw [e0]
                exact ⟨rfl, N0, rfl⟩
        · refine own_go (fun _ => XS.icmpYes X0.here hx rfl (pc0 := 21) (pc' := 54) rfl (hb hby d18_21) rfl (flt hc30).2.2.2 (by decide) (by decide)) ?_
          refine own_go (fun _ => XS.iconst X0.here hx rfl (hb hby d18_54)) ?_
          refine own_go (fun _ => XS.goto X0.here hx rfl (pc0 := 55) (pc' := 59) rfl (hb hby d18_55) (by decide) (by decide)) ?_
          show ∃ t o, Steps p.tables e below (s₁.setTop (mkF m 59 #[.val (.int c0)] [(.int (1 : Int32))])) t ∧ _
          obtain ⟨fs, hr, hrun, hended, hW, hsame⟩ := X0.leave (v := some (.int (1 : Int32))) (fun h => by rw [Bd.returns] at h; cases h)
          refine ⟨_, _, ?_, hrun, hended, _, _, rfl, ?_, ⟨_, rfl⟩, hW, hsame.mono (by decide) (by decide)⟩
          · exact retN X0 hx (t := .boolean) Bd.returns (by simp) (hb hby d18_59) hr
          · show Q_rmIs Z _ h0 n0 _ s₁.heap _
            rw [e0]
            exact ⟨rfl, N0, rfl⟩
    · refine own_go (fun _ => XS.icmpYes X0.here hx rfl (pc0 := 9) (pc' := 54) rfl (hb hby d18_9) rfl (flt hc20).2.2.2 (by decide) (by decide)) ?_
      refine own_go (fun _ => XS.iconst X0.here hx rfl (hb hby d18_54)) ?_
      refine own_go (fun _ => XS.goto X0.here hx rfl (pc0 := 55) (pc' := 59) rfl (hb hby d18_55) (by decide) (by decide)) ?_
      show ∃ t o, Steps p.tables e below (s₁.setTop (mkF m 59 #[.val (.int c0)] [(.int (1 : Int32))])) t ∧ _
      obtain ⟨fs, hr, hrun, hended, hW, hsame⟩ := X0.leave (v := some (.int (1 : Int32))) (fun h => by rw [Bd.returns] at h; cases h)
      refine ⟨_, _, ?_, hrun, hended, _, _, rfl, ?_, ⟨_, rfl⟩, hW, hsame.mono (by decide) (by decide)⟩
      · exact retN X0 hx (t := .boolean) Bd.returns (by simp) (hb hby d18_59) hr
      · show Q_rmIs Z _ h0 n0 _ s₁.heap _
        rw [e0]
        exact ⟨rfl, N0, rfl⟩
theorem ef_rmRnn (m : MethodId) (x0 : Nat) (x1 : Nat) : entryFrame m #[(.ref x0), (.ref x1)] 2 = mkF m 0 #[.val (.ref x0), .val (.ref x1)] [] := by first | (simp [entryFrame, mkF, argsToLocals, Value.category]; done) | rfl
theorem d9_0 : decode jdk_31_method_11_code 0 = .ok (.aload_n 0, 1) := by decide +kernel
theorem d9_1 : decode jdk_31_method_11_code 1 = .ok (.ifnonnull 12, 3) := by decide +kernel
theorem d9_13 : decode jdk_31_method_11_code 13 = .ok (.aload_n 0, 1) := by decide +kernel
theorem d9_14 : decode jdk_31_method_11_code 14 = .ok (.areturn, 1) := by decide +kernel
theorem pn_java_util_Objects : plainName "java/util/Objects" = true := by first | (simp [plainName, overriddenIn]; done) | decide +kernel
def Q_rmRnn (Z : State) (a1 : Nat) (a2 : Nat) (h0 : Heap) (n0 : Nat) (v : Option Value) (h : Heap) (L : List Loc) : Prop := v = some (.ref a1) ∧ Fr n0 L ∧ h = h0
set_option maxRecDepth 65536 in
set_option maxHeartbeats 40000000 in
theorem rmRnn (l : Launch) (Z : State) (a0 : Array Value) (hw : ∀ d ∈ tables_1, d.before a0 Z = true) (ws : List Jvm.Cond) (a1 : Nat) (a2 : Nat) (h0 : Heap) (n0 : Nat) (Z0 : n0 ≤ h0.size) (OLD : Old Z n0 h0) :
    MetFree l (⟨"java/util/Objects", "requireNonNull", "(Ljava/lang/Object;Ljava/lang/String;)Ljava/lang/Object;"⟩ : MethodName) (head1 (Jvm.Cond.code (⟨"java/util/Objects", "requireNonNull", "(Ljava/lang/Object;Ljava/lang/String;)Ljava/lang/Object;"⟩ : MethodName) jdk_31_method_11_code 2 (some (.object "java/lang/Object")) :: ws) ({ frames := 0, cells := 0, slots := 0, locals := 0 } : Room)) (fun a U => a = #[(.ref a1), (.ref a2)] ∧ Z.Warmed39 U.vm ∧ U.heap = h0) (fun _ _ _ _ _ => True) (fun _ U o U' => ∃ v L, o = .returned v ∧ Q_rmRnn Z a1 a2 h0 n0 v U'.heap L ∧ FrameEnd U o U' L ({ frames := 0, cells := 0, slots := 0, locals := 0 } : Room).cells ({ frames := 0, cells := 0, slots := 0, locals := 0 } : Room).slots) := by
  refine MetFree.of_bodySF (plainFor_of_name pn_java_util_Objects) hisR ?_
  intro p e s m args below meth c s₁ Bd hml0 hP hK
  obtain ⟨rfl, hZ, hh⟩ := hP
  have hx := Bd.exec
  have hby := Bd.bytes
  have hml : c.maxLocals = 2 := hml0
  have hown : s.vm.findClass "java/util/Objects" = some m.cls := findClass_of_methodNamed Bd.named
  have hnm := (name_of_methodNamed Bd.named Bd.method).1
  have X0 : Stand p l e ({ frames := 0, cells := 0, slots := 0, locals := 0 } : Room) s m #[(.ref a1), (.ref a2)] below meth c s₁ [] 0 0 := Stand.of_body Bd
  have e0 : s₁.heap = h0 := by rw [← hh, Bd.state]; rfl
  have N0 := Fr.nil n0
  have pre0 : ∀ t, Steps p.tables e below (s₁.setTop (mkF m 0 #[.val (.ref a1), .val (.ref a2)] [])) t → Steps p.tables e below (s₁.setTop (entryFrame m #[(.ref a1), (.ref a2)] 2)) t := fun t k => castTop (ef_rmRnn m a1 a2) k
  have oz := OLD.1
  refine own_go (B := s₁.setTop (mkF m 0 #[.val (.ref a1), .val (.ref a2)] [])) pre0 ?_
  show ∃ t o, Steps p.tables e below (s₁.setTop (mkF m 0 #[.val (.ref a1), .val (.ref a2)] [])) t ∧ _
  refine own_go (fun _ => XS.aloadN X0.here hx rfl (hb hby d9_0) rfl rfl) ?_
  show ∃ t o, Steps p.tables e below (s₁.setTop (mkF m 1 #[.val (.ref a1), .val (.ref a2)] [(.ref a1)])) t ∧ _
  refine own_go (fun _ => XS.ifnonnullYes X0.here hx rfl (pc0 := 1) (pc' := 13) rfl (hb hby d9_1) rfl (by decide) (by decide)) ?_
  refine own_go (fun _ => XS.aloadN X0.here hx rfl (hb hby d9_13) rfl rfl) ?_
  show ∃ t o, Steps p.tables e below (s₁.setTop (mkF m 14 #[.val (.ref a1), .val (.ref a2)] [(.ref a1)])) t ∧ _
  obtain ⟨fs, hr, hrun, hended, hW, hsame⟩ := X0.leave (v := some (.ref a1)) (fun h => by rw [Bd.returns] at h; cases h)
  refine ⟨_, _, ?_, hrun, hended, _, _, rfl, ?_, ⟨_, rfl⟩, hW, hsame.mono (by decide) (by decide)⟩
  · jvm_step X0.here [X0.here.top, hx, (hb hby d9_14), X0.method', Bd.returns, Value.isRef, FieldType.isReference]
    first | (intro acts; rw [hr _ acts rfl rfl rfl]) | rw [hr _ _ rfl rfl rfl]
    exact Steps.refl _
  · show Q_rmRnn Z _ _ h0 n0 _ s₁.heap _
    rw [e0]
    exact ⟨rfl, N0, rfl⟩
theorem ef_rmInit (m : MethodId) (x0 : Nat) (x1 : Nat) : entryFrame m #[(.ref x0), (.ref x1)] 2 = mkF m 0 #[.val (.ref x0), .val (.ref x1)] [] := by first | (simp [entryFrame, mkF, argsToLocals, Value.category]; done) | rfl
theorem d19_0 : decode prog_6_method_1_code 0 = .ok (.aload_n 0, 1) := by decide +kernel
theorem d19_1 : decode prog_6_method_1_code 1 = .ok (.invokespecial 1, 3) := by decide +kernel
theorem d19_4 : decode prog_6_method_1_code 4 = .ok (.aload_n 0, 1) := by decide +kernel
theorem d19_5 : decode prog_6_method_1_code 5 = .ok (.aload_n 1, 1) := by decide +kernel
theorem d19_6 : decode prog_6_method_1_code 6 = .ok (.putfield 7, 3) := by decide +kernel
theorem d19_9 : decode prog_6_method_1_code 9 = .ok (.return_, 1) := by decide +kernel
def Q_rmInit (Z : State) (a1 : Nat) (so : Nat) (h0 : Heap) (n0 : Nat) (v : Option Value) (h : Heap) (L : List Loc) : Prop := v = none ∧ Fr n0 L ∧ Keep h0 h [a1] ∧ Exa Z h a1 "com/example/libtardy/libtardy/QueueName" ∧ Fld Z h a1 "com/example/libtardy/libtardy/QueueName" "name" "Ljava/lang/String;" (.ref so)
set_option maxRecDepth 65536 in
set_option maxHeartbeats 40000000 in
theorem rmInit (l : Launch) (Z : State) (a0 : Array Value) (hw : ∀ d ∈ tables_1, d.before a0 Z = true) (ws : List Jvm.Cond) (a1 : Nat) (so : Nat) (h0 : Heap) (n0 : Nat) (Z0 : n0 ≤ h0.size) (P1 : Exa Z h0 a1 "com/example/libtardy/libtardy/QueueName") (P2 : Fld Z h0 a1 "com/example/libtardy/libtardy/QueueName" "name" "Ljava/lang/String;" .null) (OLD : Old Z n0 h0) (ga : n0 ≤ a1) :
    MetFree l (⟨"com/example/libtardy/libtardy/QueueName", "<init>", "(Ljava/lang/String;)V"⟩ : MethodName) (head1 (Jvm.Cond.code (⟨"com/example/libtardy/libtardy/QueueName", "<init>", "(Ljava/lang/String;)V"⟩ : MethodName) prog_6_method_1_code 2 none :: ws) ({ frames := 1, cells := 0, slots := 0, locals := 12 } : Room)) (fun a U => a = #[(.ref a1), (.ref so)] ∧ Z.Warmed39 U.vm ∧ U.heap = h0) (fun _ _ _ _ _ => True) (fun _ U o U' => ∃ v L, o = .returned v ∧ Q_rmInit Z a1 so h0 n0 v U'.heap L ∧ FrameEnd U o U' L ({ frames := 1, cells := 0, slots := 0, locals := 12 } : Room).cells ({ frames := 1, cells := 0, slots := 0, locals := 12 } : Room).slots) := by
  refine MetFree.of_bodySF (plainFor_of_name pn_com_example_libtardy_libtardy_QueueName) hisR ?_
  intro p e s m args below meth c s₁ Bd hml0 hP hK
  obtain ⟨rfl, hZ, hh⟩ := hP
  have hx := Bd.exec
  have hby := Bd.bytes
  have hml : c.maxLocals = 2 := hml0
  have hown : s.vm.findClass "com/example/libtardy/libtardy/QueueName" = some m.cls := findClass_of_methodNamed Bd.named
  have hnm := (name_of_methodNamed Bd.named Bd.method).1
  have X0 : Stand p l e ({ frames := 1, cells := 0, slots := 0, locals := 12 } : Room) s m #[(.ref a1), (.ref so)] below meth c s₁ [] 0 0 := Stand.of_body Bd
  have e0 : s₁.heap = h0 := by rw [← hh, Bd.state]; rfl
  have N0 := Fr.nil n0
  have pre0 : ∀ t, Steps p.tables e below (s₁.setTop (mkF m 0 #[.val (.ref a1), .val (.ref so)] [])) t → Steps p.tables e below (s₁.setTop (entryFrame m #[(.ref a1), (.ref so)] 2)) t := fun t k => castTop (ef_rmInit m a1 so) k
  have oz := OLD.1
  have lt_a1 : a1 < h0.size := P1.lt
  refine own_go (B := s₁.setTop (mkF m 0 #[.val (.ref a1), .val (.ref so)] [])) pre0 ?_
  show ∃ t o, Steps p.tables e below (s₁.setTop (mkF m 0 #[.val (.ref a1), .val (.ref so)] [])) t ∧ _
  refine own_go (fun _ => XS.aloadN X0.here hx rfl (hb hby d19_0) rfl rfl) ?_
  show ∃ t o, Steps p.tables e below (s₁.setTop (mkF m 1 #[.val (.ref a1), .val (.ref so)] [(.ref a1)])) t ∧ _
  obtain ⟨T3, X3, e3, st3⟩ := initO X0 hx hZ hown (hw _ (List.mem_of_getElem? (i := 91) rfl)) (hw _ (List.mem_of_getElem? (i := 17) rfl)) (hw _ (List.mem_of_getElem? (i := 18) rfl)) e0 (g := (mkF m 1 #[.val (.ref a1), .val (.ref so)] [(.ref a1)])) rfl (by rw [hml]; rfl) rfl (hb hby d19_1) (by decide) (W := 0) (by show 2 * 0 + _ ≤ _; exact Nat.le_of_eq rfl) (by decide)
  refine own_go st3 ?_
  refine own_go (fun _ => XS.aloadN X3.here hx rfl (hb hby d19_4) rfl rfl) ?_
  refine own_go (fun _ => XS.aloadN X3.here hx rfl (hb hby d19_5) rfl rfl) ?_
  show ∃ t o, Steps p.tables e below (T3.setTop (mkF m 6 #[.val (.ref a1), .val (.ref so)] [(.ref so), (.ref a1)])) t ∧ _
  obtain ⟨T4, h4, X4, e4, W4, st4⟩ := putF X3 hx hZ hown (host := "") (Or.inl (hw _ (List.mem_of_getElem? (i := 92) rfl))) Via.refl e3 P2 P1 (Or.inr ⟨(hw _ (List.mem_of_getElem? (i := 93) rfl)), rfl, hnm⟩) (hw _ (List.mem_of_getElem? (i := 87) rfl)) (ty := (.object "java/lang/String")) (by decide) rfl rfl (g := (mkF m 6 #[.val (.ref a1), .val (.ref so)] [(.ref so), (.ref a1)])) rfl rfl (hb hby d19_6)
  refine own_go st4 ?_
  have le_4 : h0.size ≤ h4.size := Nat.le_of_eq W4.size.symm
  have K4 : Keep h0 h4 [a1] := Keep.wr (Keep.refl h0 [a1]) W4 (Or.inl (List.mem_of_getElem? (i := 0) rfl))
  have N4 := Fr.snoc X4 N0 ga
  have Fw4 := Fld.same W4 P2
  show ∃ t o, Steps p.tables e below (T4.setTop (mkF m 9 #[.val (.ref a1), .val (.ref so)] [])) t ∧ _
  have F5 : Exa Z h4 a1 "com/example/libtardy/libtardy/QueueName" := (Exa.wr W4 P1)
  obtain ⟨fs, hr, hrun, hended, hW, hsame⟩ := X4.leave (v := none) (fun _ => rfl)
  refine ⟨_, _, ?_, hrun, hended, _, _, rfl, ?_, ⟨_, rfl⟩, hW, hsame.mono (by decide) (by decide)⟩
  · exact X4.returnOut hx Bd.returns (hb hby d19_9) hr
  · show Q_rmInit Z _ _ h0 n0 _ T4.heap _
    rw [e4]
    exact ⟨rfl, N4, K4, F5, Fw4⟩
theorem ef_rmTos (m : MethodId) (x0 : Nat) : entryFrame m #[(.ref x0)] 1 = mkF m 0 #[.val (.ref x0)] [] := by first | (simp [entryFrame, mkF, argsToLocals, Value.category]; done) | rfl
theorem d20_0 : decode prog_6_method_5_code 0 = .ok (.aload_n 0, 1) := by decide +kernel
theorem d20_1 : decode prog_6_method_5_code 1 = .ok (.getfield 7, 3) := by decide +kernel
theorem d20_4 : decode prog_6_method_5_code 4 = .ok (.areturn, 1) := by decide +kernel
def Q_rmTos (Z : State) (a1 : Nat) (so : Nat) (h0 : Heap) (n0 : Nat) (v : Option Value) (h : Heap) (L : List Loc) : Prop := v = some (.ref so) ∧ Fr n0 L ∧ h = h0
set_option maxRecDepth 65536 in
set_option maxHeartbeats 40000000 in
theorem rmTos (l : Launch) (Z : State) (a0 : Array Value) (hw : ∀ d ∈ tables_1, d.before a0 Z = true) (ws : List Jvm.Cond) (a1 : Nat) (so : Nat) (h0 : Heap) (n0 : Nat) (Z0 : n0 ≤ h0.size) (P1 : Fld Z h0 a1 "com/example/libtardy/libtardy/QueueName" "name" "Ljava/lang/String;" (.ref so)) (OLD : Old Z n0 h0) :
    MetFree l (⟨"com/example/libtardy/libtardy/QueueName", "toString", "()Ljava/lang/String;"⟩ : MethodName) (head1 (Jvm.Cond.code (⟨"com/example/libtardy/libtardy/QueueName", "toString", "()Ljava/lang/String;"⟩ : MethodName) prog_6_method_5_code 1 (some (.object "java/lang/String")) :: ws) ({ frames := 0, cells := 0, slots := 0, locals := 0 } : Room)) (fun a U => a = #[(.ref a1)] ∧ Z.Warmed39 U.vm ∧ U.heap = h0) (fun _ _ _ _ _ => True) (fun _ U o U' => ∃ v L, o = .returned v ∧ Q_rmTos Z a1 so h0 n0 v U'.heap L ∧ FrameEnd U o U' L ({ frames := 0, cells := 0, slots := 0, locals := 0 } : Room).cells ({ frames := 0, cells := 0, slots := 0, locals := 0 } : Room).slots) := by
  refine MetFree.of_bodySF (plainFor_of_name pn_com_example_libtardy_libtardy_QueueName) hisR ?_
  intro p e s m args below meth c s₁ Bd hml0 hP hK
  obtain ⟨rfl, hZ, hh⟩ := hP
  have hx := Bd.exec
  have hby := Bd.bytes
  have hml : c.maxLocals = 1 := hml0
  have hown : s.vm.findClass "com/example/libtardy/libtardy/QueueName" = some m.cls := findClass_of_methodNamed Bd.named
  have hnm := (name_of_methodNamed Bd.named Bd.method).1
  have X0 : Stand p l e ({ frames := 0, cells := 0, slots := 0, locals := 0 } : Room) s m #[(.ref a1)] below meth c s₁ [] 0 0 := Stand.of_body Bd
  have e0 : s₁.heap = h0 := by rw [← hh, Bd.state]; rfl
  have N0 := Fr.nil n0
  have pre0 : ∀ t, Steps p.tables e below (s₁.setTop (mkF m 0 #[.val (.ref a1)] [])) t → Steps p.tables e below (s₁.setTop (entryFrame m #[(.ref a1)] 1)) t := fun t k => castTop (ef_rmTos m a1) k
  have oz := OLD.1
  have lt_a1 : a1 < h0.size := P1.lt
  refine own_go (B := s₁.setTop (mkF m 0 #[.val (.ref a1)] [])) pre0 ?_
  show ∃ t o, Steps p.tables e below (s₁.setTop (mkF m 0 #[.val (.ref a1)] [])) t ∧ _
  refine own_go (fun _ => XS.aloadN X0.here hx rfl (hb hby d20_0) rfl rfl) ?_
  obtain ⟨T2, X2, e2, st2⟩ := getF X0 hx hZ hown (host := "") (Or.inl (hw _ (List.mem_of_getElem? (i := 92) rfl))) Via.refl e0 P1 (g := (mkF m 1 #[.val (.ref a1)] [(.ref a1)])) rfl rfl (hb hby d20_1)
  refine own_go st2 ?_
  show ∃ t o, Steps p.tables e below (T2.setTop (mkF m 4 #[.val (.ref a1)] [(.ref so)])) t ∧ _
  obtain ⟨fs, hr, hrun, hended, hW, hsame⟩ := X2.leave (v := some (.ref so)) (fun h => by rw [Bd.returns] at h; cases h)
  refine ⟨_, _, ?_, hrun, hended, _, _, rfl, ?_, ⟨_, rfl⟩, hW, hsame.mono (by decide) (by decide)⟩
  · jvm_step X2.here [X2.here.top, hx, (hb hby d20_4), X2.method', Bd.returns, Value.isRef, FieldType.isReference]
    first | (intro acts; rw [hr _ acts rfl rfl rfl]) | rw [hr _ _ rfl rfl rfl]
    exact Steps.refl _
  · show Q_rmTos Z _ _ h0 n0 _ T2.heap _
    rw [e2]
    exact ⟨rfl, N0, rfl⟩
theorem ef_rmEq (m : MethodId) (x0 : Nat) (x1 : Nat) : entryFrame m #[(.ref x0), (.ref x1)] 3 = mkF m 0 #[.val (.ref x0), .val (.ref x1), .unset] [] := by first | (simp [entryFrame, mkF, argsToLocals, Value.category]; done) | rfl
theorem d21_0 : decode jdk_42_method_66_code 0 = .ok (.aload_n 0, 1) := by decide +kernel
theorem d21_1 : decode jdk_42_method_66_code 1 = .ok (.aload_n 1, 1) := by decide +kernel
theorem d21_2 : decode jdk_42_method_66_code 2 = .ok (.if_acmp .ne 5, 3) := by decide +kernel
theorem d21_5 : decode jdk_42_method_66_code 5 = .ok (.iconst 1, 1) := by decide +kernel
theorem d21_6 : decode jdk_42_method_66_code 6 = .ok (.ireturn, 1) := by decide +kernel
def Q_rmEq (Z : State) (so : Nat) (h0 : Heap) (n0 : Nat) (v : Option Value) (h : Heap) (L : List Loc) : Prop := v = some (.int (1 : Int32)) ∧ Fr n0 L ∧ h = h0
set_option maxRecDepth 65536 in
set_option maxHeartbeats 40000000 in
theorem rmEq (l : Launch) (Z : State) (a0 : Array Value) (hw : ∀ d ∈ tables_1, d.before a0 Z = true) (ws : List Jvm.Cond) (so : Nat) (h0 : Heap) (n0 : Nat) (Z0 : n0 ≤ h0.size) (OLD : Old Z n0 h0) :
    MetFree l (⟨"java/lang/String", "equals", "(Ljava/lang/Object;)Z"⟩ : MethodName) (head1 (Jvm.Cond.code (⟨"java/lang/String", "equals", "(Ljava/lang/Object;)Z"⟩ : MethodName) jdk_42_method_66_code 3 (some .boolean) :: ws) ({ frames := 0, cells := 0, slots := 0, locals := 0 } : Room)) (fun a U => a = #[(.ref so), (.ref so)] ∧ Z.Warmed39 U.vm ∧ U.heap = h0) (fun _ _ _ _ _ => True) (fun _ U o U' => ∃ v L, o = .returned v ∧ Q_rmEq Z so h0 n0 v U'.heap L ∧ FrameEnd U o U' L ({ frames := 0, cells := 0, slots := 0, locals := 0 } : Room).cells ({ frames := 0, cells := 0, slots := 0, locals := 0 } : Room).slots) := by
  refine MetFree.of_bodySF (plainFor_of_name pn_java_lang_String) hisR ?_
  intro p e s m args below meth c s₁ Bd hml0 hP hK
  obtain ⟨rfl, hZ, hh⟩ := hP
  have hx := Bd.exec
  have hby := Bd.bytes
  have hml : c.maxLocals = 3 := hml0
  have hown : s.vm.findClass "java/lang/String" = some m.cls := findClass_of_methodNamed Bd.named
  have hnm := (name_of_methodNamed Bd.named Bd.method).1
  have X0 : Stand p l e ({ frames := 0, cells := 0, slots := 0, locals := 0 } : Room) s m #[(.ref so), (.ref so)] below meth c s₁ [] 0 0 := Stand.of_body Bd
  have e0 : s₁.heap = h0 := by rw [← hh, Bd.state]; rfl
  have N0 := Fr.nil n0
  have pre0 : ∀ t, Steps p.tables e below (s₁.setTop (mkF m 0 #[.val (.ref so), .val (.ref so), .unset] [])) t → Steps p.tables e below (s₁.setTop (entryFrame m #[(.ref so), (.ref so)] 3)) t := fun t k => castTop (ef_rmEq m so so) k
  have oz := OLD.1
  refine own_go (B := s₁.setTop (mkF m 0 #[.val (.ref so), .val (.ref so), .unset] [])) pre0 ?_
  show ∃ t o, Steps p.tables e below (s₁.setTop (mkF m 0 #[.val (.ref so), .val (.ref so), .unset] [])) t ∧ _
  refine own_go (fun _ => XS.aloadN X0.here hx rfl (hb hby d21_0) rfl rfl) ?_
  refine own_go (fun _ => XS.aloadN X0.here hx rfl (hb hby d21_1) rfl rfl) ?_
  show ∃ t o, Steps p.tables e below (s₁.setTop (mkF m 2 #[.val (.ref so), .val (.ref so), .unset] [(.ref so), (.ref so)])) t ∧ _
  refine own_go (fun _ => Jvm.RoadKit.acmp (g := (mkF m 2 #[.val (.ref so), .val (.ref so), .unset] [(.ref so), (.ref so)])) X0 hx rfl rfl rfl (pc0 := 2) (pc' := 5) (same := true) rfl (hb hby d21_2) rfl (decide_eq_true rfl) (by decide) (by decide)) ?_
  refine own_go (fun _ => XS.iconst X0.here hx rfl (hb hby d21_5)) ?_
  show ∃ t o, Steps p.tables e below (s₁.setTop (mkF m 6 #[.val (.ref so), .val (.ref so), .unset] [(.int (1 : Int32))])) t ∧ _
  obtain ⟨fs, hr, hrun, hended, hW, hsame⟩ := X0.leave (v := some (.int (1 : Int32))) (fun h => by rw [Bd.returns] at h; cases h)
  refine ⟨_, _, ?_, hrun, hended, _, _, rfl, ?_, ⟨_, rfl⟩, hW, hsame.mono (by decide) (by decide)⟩
  · exact retN X0 hx (t := .boolean) Bd.returns (by simp) (hb hby d21_6) hr
  · show Q_rmEq Z _ h0 n0 _ s₁.heap _
    rw [e0]
    exact ⟨rfl, N0, rfl⟩
theorem ef_rmLen1 (m : MethodId) (x0 : Nat) : entryFrame m #[(.ref x0)] 1 = mkF m 0 #[.val (.ref x0)] [] := by first | (simp [entryFrame, mkF, argsToLocals, Value.category]; done) | rfl
theorem d11_0 : decode jdk_42_method_54_code 0 = .ok (.aload_n 0, 1) := by decide +kernel
theorem d11_1 : decode jdk_42_method_54_code 1 = .ok (.getfield 9, 3) := by decide +kernel
theorem d11_4 : decode jdk_42_method_54_code 4 = .ok (.arraylength, 1) := by decide +kernel
theorem d11_5 : decode jdk_42_method_54_code 5 = .ok (.aload_n 0, 1) := by decide +kernel
theorem d11_6 : decode jdk_42_method_54_code 6 = .ok (.invokevirtual 335, 3) := by decide +kernel
theorem pd__28_29B : parseMethodDescriptor "()B" = some ⟨[], some .byte⟩ := by decide +kernel
theorem d11_9 : decode jdk_42_method_54_code 9 = .ok (.ishr, 1) := by decide +kernel
theorem d11_10 : decode jdk_42_method_54_code 10 = .ok (.ireturn, 1) := by decide +kernel
def Q_rmLen1 (Z : State) (so : Nat) (tb : Nat) (kb : ClassId) (c0 : Int32) (zc : Int32) (h0 : Heap) (n0 : Nat) (v : Option Value) (h : Heap) (L : List Loc) : Prop := v = some (.int (1 : Int32)) ∧ Fr n0 L ∧ h = h0
set_option maxRecDepth 65536 in
set_option maxHeartbeats 40000000 in
theorem rmLen1 (l : Launch) (Z : State) (a0 : Array Value) (hw : ∀ d ∈ tables_1, d.before a0 Z = true) (ws : List Jvm.Cond) (so : Nat) (tb : Nat) (kb : ClassId) (c0 : Int32) (zc : Int32) (h0 : Heap) (n0 : Nat) (Z0 : n0 ≤ h0.size) (P1 : Exa Z h0 so "java/lang/String") (P2 : Fld Z h0 so "java/lang/String" "value" "[B" (.ref tb)) (P3 : Fld Z h0 so "java/lang/String" "coder" "B" (.int (0 : Int32))) (P4 : Arv Z h0 tb kb .byte (1 : Int32) [(.int (c0.toInt8.toInt32))] (.int (0 : Int32))) (OLD : Old Z n0 h0) (P5 : Sta Z Z.heap "java/lang/String" "COMPACT_STRINGS" "Z" (.int zc)) (hzc : ¬ (zc = (0 : Int32))) :
    MetFree l (⟨"java/lang/String", "length", "()I"⟩ : MethodName) (head1 (Jvm.Cond.code (⟨"java/lang/String", "length", "()I"⟩ : MethodName) jdk_42_method_54_code 1 (some .int) :: ws) ({ frames := 1, cells := 0, slots := 0, locals := 13 } : Room)) (fun a U => a = #[(.ref so)] ∧ Z.Warmed39 U.vm ∧ U.heap = h0) (fun _ _ _ _ _ => True) (fun _ U o U' => ∃ v L, o = .returned v ∧ Q_rmLen1 Z so tb kb c0 zc h0 n0 v U'.heap L ∧ FrameEnd U o U' L ({ frames := 1, cells := 0, slots := 0, locals := 13 } : Room).cells ({ frames := 1, cells := 0, slots := 0, locals := 13 } : Room).slots) := by
  refine MetFree.of_bodySF (plainFor_of_name pn_java_lang_String) hisR ?_
  intro p e s m args below meth c s₁ Bd hml0 hP hK
  obtain ⟨rfl, hZ, hh⟩ := hP
  have hx := Bd.exec
  have hby := Bd.bytes
  have hml : c.maxLocals = 1 := hml0
  have hown : s.vm.findClass "java/lang/String" = some m.cls := findClass_of_methodNamed Bd.named
  have hnm := (name_of_methodNamed Bd.named Bd.method).1
  have X0 : Stand p l e ({ frames := 1, cells := 0, slots := 0, locals := 13 } : Room) s m #[(.ref so)] below meth c s₁ [] 0 0 := Stand.of_body Bd
  have e0 : s₁.heap = h0 := by rw [← hh, Bd.state]; rfl
  have N0 := Fr.nil n0
  have pre0 : ∀ t, Steps p.tables e below (s₁.setTop (mkF m 0 #[.val (.ref so)] [])) t → Steps p.tables e below (s₁.setTop (entryFrame m #[(.ref so)] 1)) t := fun t k => castTop (ef_rmLen1 m so) k
  have oz := OLD.1
  have lt_so : so < h0.size := P1.lt
  have lt_tb : tb < h0.size := P4.lt
  refine own_go (B := s₁.setTop (mkF m 0 #[.val (.ref so)] [])) pre0 ?_
  show ∃ t o, Steps p.tables e below (s₁.setTop (mkF m 0 #[.val (.ref so)] [])) t ∧ _
  refine own_go (fun _ => XS.aloadN X0.here hx rfl (hb hby d11_0) rfl rfl) ?_
  obtain ⟨T6, X6, e6, st6⟩ := getF X0 hx hZ hown (host := "") (Or.inl (hw _ (List.mem_of_getElem? (i := 33) rfl))) Via.refl e0 P2 (g := (mkF m 1 #[.val (.ref so)] [(.ref so)])) rfl rfl (hb hby d11_1)
  refine own_go st6 ?_
  obtain ⟨cl7, Ar7, q7, S7, N7, H7, G7⟩ := id P4
  have ln7 : cl7.slots.size.toInt32 = (1 : Int32) := len_of S7 N7
  have al7 := X6.arraylength hx (by rw [e6]; exact Ar7.1) (State.isArrayOf_alike hZ.alike Ar7.2.1) (g := (mkF m 4 #[.val (.ref so)] [(.ref tb)])) rfl rfl (hb hby d11_4)
  rw [ln7] at al7
  refine own_go al7 ?_
  show ∃ t o, Steps p.tables e below (T6.setTop (mkF m 5 #[.val (.ref so)] [(.int (1 : Int32))])) t ∧ _
  refine own_go (fun _ => XS.aloadN X6.here hx rfl (hb hby d11_5) rfl rfl) ?_
  show ∃ t o, Steps p.tables e below (T6.setTop (mkF m 6 #[.val (.ref so)] [(.ref so), (.int (1 : Int32))])) t ∧ _
  obtain ⟨cq8, kq8, q8a, q8b, q8c⟩ := isOf hZ e6 P1
  obtain ⟨_, _, ⟨T8, L8, k8, n8⟩, -, X8, ⟨Lc8, hQ8, l8, y8, z8⟩, st8⟩ := X6.virtualBack hx (y := (⟨"java/lang/String", "coder", "()B"⟩ : MethodName)) (z := (⟨"java/lang/String", "coder", "()B"⟩ : MethodName)) hown (mvT hZ (hw _ (List.mem_of_getElem? (i := 56) rfl))) (mvT hZ (hw _ (List.mem_of_getElem? (i := 57) rfl))) (notFace_of_selects (args := #[]) (mvT hZ (hw _ (List.mem_of_getElem? (i := 59) rfl)))) (mvT hZ (hw _ (List.mem_of_getElem? (i := 59) rfl))) (mvT hZ (hw _ (List.mem_of_getElem? (i := 58) rfl))) (by decide) (backOf (W := 1) (rmCoder l Z a0 hw [] so zc h0 n0 Z0 P3 OLD P5 hzc) hZ (hw _ (List.mem_of_getElem? (i := 60) rfl)) (hw _ (List.mem_of_getElem? (i := 7) rfl)) (by decide) (by decide)) q8a q8c (g := (mkF m 6 #[.val (.ref so)] [(.ref so), (.int (1 : Int32))])) rfl (by rw [hml]; rfl) (Steps.refl _) (argsL := []) (rest := [(.int (1 : Int32))]) (lenOf pd__28_29B rfl) rfl (by show 2 * 0 + _ ≤ _; exact Nat.le_of_eq rfl) (hb hby d11_6) (fun _ _ => ⟨rfl, e6, (by decide : 0 + 0 ≤ _), (by decide : 0 + 0 ≤ _)⟩)
  dsimp only [Pt.U, Pt.locs, Pt.cells, Pt.slots] at X8 l8 y8 z8 st8 hQ8
  subst l8 y8 z8
  obtain ⟨rfl, Nq8, e8⟩ := hQ8
  have N8 := Fr.app N0 Nq8
  refine own_goT st8 ?_
  refine own_go (fun _ => XS.ishr X8.here hx rfl (hb hby d11_9) rfl) ?_
  show ∃ t o, Steps p.tables e below (T8.setTop (mkF m 10 #[.val (.ref so)] [(.int (1 : Int32))])) t ∧ _
  obtain ⟨fs, hr, hrun, hended, hW, hsame⟩ := X8.leave (v := some (.int (1 : Int32))) (fun h => by rw [Bd.returns] at h; cases h)
  refine ⟨_, _, ?_, hrun, hended, _, _, rfl, ?_, ⟨_, rfl⟩, hW, hsame.mono (by decide) (by decide)⟩
  · exact retI X8 hx Bd.returns (hb hby d11_10) hr
  · show Q_rmLen1 Z _ _ _ _ _ h0 n0 _ T8.heap _
    rw [e8]
    exact ⟨rfl, N8, rfl⟩
theorem ef_rmEmp1 (m : MethodId) (x0 : Nat) : entryFrame m #[(.ref x0)] 1 = mkF m 0 #[.val (.ref x0)] [] := by first | (simp [entryFrame, mkF, argsToLocals, Value.category]; done) | rfl
theorem d10_0 : decode jdk_42_method_55_code 0 = .ok (.aload_n 0, 1) := by decide +kernel
theorem d10_1 : decode jdk_42_method_55_code 1 = .ok (.getfield 9, 3) := by decide +kernel
theorem d10_4 : decode jdk_42_method_55_code 4 = .ok (.arraylength, 1) := by decide +kernel
theorem d10_5 : decode jdk_42_method_55_code 5 = .ok (.ifCond .ne 7, 3) := by decide +kernel
theorem d10_12 : decode jdk_42_method_55_code 12 = .ok (.iconst 0, 1) := by decide +kernel
theorem d10_13 : decode jdk_42_method_55_code 13 = .ok (.ireturn, 1) := by decide +kernel
def Q_rmEmp1 (Z : State) (so : Nat) (tb : Nat) (kb : ClassId) (c0 : Int32) (h0 : Heap) (n0 : Nat) (v : Option Value) (h : Heap) (L : List Loc) : Prop := v = some (.int (0 : Int32)) ∧ Fr n0 L ∧ h = h0
set_option maxRecDepth 65536 in
set_option maxHeartbeats 40000000 in
theorem rmEmp1 (l : Launch) (Z : State) (a0 : Array Value) (hw : ∀ d ∈ tables_1, d.before a0 Z = true) (ws : List Jvm.Cond) (so : Nat) (tb : Nat) (kb : ClassId) (c0 : Int32) (h0 : Heap) (n0 : Nat) (Z0 : n0 ≤ h0.size) (P1 : Exa Z h0 so "java/lang/String") (P2 : Fld Z h0 so "java/lang/String" "value" "[B" (.ref tb)) (P3 : Fld Z h0 so "java/lang/String" "coder" "B" (.int (0 : Int32))) (P4 : Arv Z h0 tb kb .byte (1 : Int32) [(.int (c0.toInt8.toInt32))] (.int (0 : Int32))) (OLD : Old Z n0 h0) :
    MetFree l (⟨"java/lang/String", "isEmpty", "()Z"⟩ : MethodName) (head1 (Jvm.Cond.code (⟨"java/lang/String", "isEmpty", "()Z"⟩ : MethodName) jdk_42_method_55_code 1 (some .boolean) :: ws) ({ frames := 0, cells := 0, slots := 0, locals := 0 } : Room)) (fun a U => a = #[(.ref so)] ∧ Z.Warmed39 U.vm ∧ U.heap = h0) (fun _ _ _ _ _ => True) (fun _ U o U' => ∃ v L, o = .returned v ∧ Q_rmEmp1 Z so tb kb c0 h0 n0 v U'.heap L ∧ FrameEnd U o U' L ({ frames := 0, cells := 0, slots := 0, locals := 0 } : Room).cells ({ frames := 0, cells := 0, slots := 0, locals := 0 } : Room).slots) := by
  refine MetFree.of_bodySF (plainFor_of_name pn_java_lang_String) hisR ?_
  intro p e s m args below meth c s₁ Bd hml0 hP hK
  obtain ⟨rfl, hZ, hh⟩ := hP
  have hx := Bd.exec
  have hby := Bd.bytes
  have hml : c.maxLocals = 1 := hml0
  have hown : s.vm.findClass "java/lang/String" = some m.cls := findClass_of_methodNamed Bd.named
  have hnm := (name_of_methodNamed Bd.named Bd.method).1
  have X0 : Stand p l e ({ frames := 0, cells := 0, slots := 0, locals := 0 } : Room) s m #[(.ref so)] below meth c s₁ [] 0 0 := Stand.of_body Bd
  have e0 : s₁.heap = h0 := by rw [← hh, Bd.state]; rfl
  have N0 := Fr.nil n0
  have pre0 : ∀ t, Steps p.tables e below (s₁.setTop (mkF m 0 #[.val (.ref so)] [])) t → Steps p.tables e below (s₁.setTop (entryFrame m #[(.ref so)] 1)) t := fun t k => castTop (ef_rmEmp1 m so) k
  have oz := OLD.1
  have lt_so : so < h0.size := P1.lt
  have lt_tb : tb < h0.size := P4.lt
  refine own_go (B := s₁.setTop (mkF m 0 #[.val (.ref so)] [])) pre0 ?_
  show ∃ t o, Steps p.tables e below (s₁.setTop (mkF m 0 #[.val (.ref so)] [])) t ∧ _
  refine own_go (fun _ => XS.aloadN X0.here hx rfl (hb hby d10_0) rfl rfl) ?_
  obtain ⟨T5, X5, e5, st5⟩ := getF X0 hx hZ hown (host := "") (Or.inl (hw _ (List.mem_of_getElem? (i := 33) rfl))) Via.refl e0 P2 (g := (mkF m 1 #[.val (.ref so)] [(.ref so)])) rfl rfl (hb hby d10_1)
  refine own_go st5 ?_
  obtain ⟨cl6, Ar6, q6, S6, N6, H6, G6⟩ := id P4
  have ln6 : cl6.slots.size.toInt32 = (1 : Int32) := len_of S6 N6
  have al6 := X5.arraylength hx (by rw [e5]; exact Ar6.1) (State.isArrayOf_alike hZ.alike Ar6.2.1) (g := (mkF m 4 #[.val (.ref so)] [(.ref tb)])) rfl rfl (hb hby d10_4)
  rw [ln6] at al6
  refine own_go al6 ?_
  show ∃ t o, Steps p.tables e below (T5.setTop (mkF m 5 #[.val (.ref so)] [(.int (1 : Int32))])) t ∧ _
  refine own_go (fun _ => XS.ifYes X5.here hx rfl (pc0 := 5) (pc' := 12) rfl (hb hby d10_5) rfl ((if0 _ _).trans (feq (by decide : ¬ ((1 : Int32) = (0 : Int32)))).2) (by decide) (by decide)) ?_
  refine own_go (fun _ => XS.iconst X5.here hx rfl (hb hby d10_12)) ?_
  show ∃ t o, Steps p.tables e below (T5.setTop (mkF m 13 #[.val (.ref so)] [(.int (0 : Int32))])) t ∧ _
  obtain ⟨fs, hr, hrun, hended, hW, hsame⟩ := X5.leave (v := some (.int (0 : Int32))) (fun h => by rw [Bd.returns] at h; cases h)
  refine ⟨_, _, ?_, hrun, hended, _, _, rfl, ?_, ⟨_, rfl⟩, hW, hsame.mono (by decide) (by decide)⟩
  · exact retN X5 hx (t := .boolean) Bd.returns (by simp) (hb hby d10_13) hr
  · show Q_rmEmp1 Z _ _ _ _ h0 n0 _ T5.heap _
    rw [e5]
    exact ⟨rfl, N0, rfl⟩
theorem ef_rmLch1_0 (m : MethodId) (x0 : Nat) (x1 : Int32) : entryFrame m #[(.ref x0), (.int x1)] 2 = mkF m 0 #[.val (.ref x0), .val (.int x1)] [] := by first | (simp [entryFrame, mkF, argsToLocals, Value.category]; done) | rfl
theorem d15_0 : decode jdk_43_method_2_code 0 = .ok (.iload_n 1, 1) := by decide +kernel
theorem d15_1 : decode jdk_43_method_2_code 1 = .ok (.aload_n 0, 1) := by decide +kernel
theorem d15_2 : decode jdk_43_method_2_code 2 = .ok (.arraylength, 1) := by decide +kernel
theorem d15_3 : decode jdk_43_method_2_code 3 = .ok (.invokestatic 9, 3) := by decide +kernel
theorem pd__28II_29V : parseMethodDescriptor "(II)V" = some ⟨[.int, .int], none⟩ := by decide +kernel
theorem d15_6 : decode jdk_43_method_2_code 6 = .ok (.aload_n 0, 1) := by decide +kernel
theorem d15_7 : decode jdk_43_method_2_code 7 = .ok (.iload_n 1, 1) := by decide +kernel
theorem d15_8 : decode jdk_43_method_2_code 8 = .ok (.baload, 1) := by decide +kernel
theorem d15_9 : decode jdk_43_method_2_code 9 = .ok (.sipush 255, 3) := by decide +kernel
theorem d15_12 : decode jdk_43_method_2_code 12 = .ok (.iand, 1) := by decide +kernel
theorem d15_13 : decode jdk_43_method_2_code 13 = .ok (.i2c, 1) := by decide +kernel
theorem d15_14 : decode jdk_43_method_2_code 14 = .ok (.ireturn, 1) := by decide +kernel
theorem pn_java_lang_StringLatin1 : plainName "java/lang/StringLatin1" = true := by first | (simp [plainName, overriddenIn]; done) | decide +kernel
def Q_rmLch1_0 (Z : State) (tb : Nat) (kb : ClassId) (c0 : Int32) (gv : Value) (h0 : Heap) (n0 : Nat) (v : Option Value) (h : Heap) (L : List Loc) : Prop := v = some (.int c0) ∧ Fr n0 L ∧ h = h0
set_option maxRecDepth 65536 in
set_option maxHeartbeats 40000000 in
theorem rmLch1_0 (l : Launch) (Z : State) (a0 : Array Value) (hw : ∀ d ∈ tables_1, d.before a0 Z = true) (ws : List Jvm.Cond) (tb : Nat) (kb : ClassId) (c0 : Int32) (gv : Value) (h0 : Heap) (n0 : Nat) (Z0 : n0 ≤ h0.size) (P1 : Arv Z h0 tb kb .byte (1 : Int32) [(.int (c0.toInt8.toInt32))] (.int (0 : Int32))) (OLD : Old Z n0 h0) (P2 : Sta Z Z.heap "jdk/internal/util/Preconditions" "SIOOBE_FORMATTER" "Ljava/util/function/BiFunction;" gv) (hrg : own_rg c0) (hgv : gv.isRef = true) :
    MetFree l (⟨"java/lang/StringLatin1", "charAt", "([BI)C"⟩ : MethodName) (head1 (Jvm.Cond.code (⟨"java/lang/StringLatin1", "charAt", "([BI)C"⟩ : MethodName) jdk_43_method_2_code 2 (some .char) :: ws) ({ frames := 2, cells := 0, slots := 0, locals := 27 } : Room)) (fun a U => a = #[(.ref tb), (.int (0 : Int32))] ∧ Z.Warmed39 U.vm ∧ U.heap = h0) (fun _ _ _ _ _ => True) (fun _ U o U' => ∃ v L, o = .returned v ∧ Q_rmLch1_0 Z tb kb c0 gv h0 n0 v U'.heap L ∧ FrameEnd U o U' L ({ frames := 2, cells := 0, slots := 0, locals := 27 } : Room).cells ({ frames := 2, cells := 0, slots := 0, locals := 27 } : Room).slots) := by
  refine MetFree.of_bodySF (plainFor_of_name pn_java_lang_StringLatin1) hisR ?_
  intro p e s m args below meth c s₁ Bd hml0 hP hK
  obtain ⟨rfl, hZ, hh⟩ := hP
  have hx := Bd.exec
  have hby := Bd.bytes
  have hml : c.maxLocals = 2 := hml0
  have hown : s.vm.findClass "java/lang/StringLatin1" = some m.cls := findClass_of_methodNamed Bd.named
  have hnm := (name_of_methodNamed Bd.named Bd.method).1
  have X0 : Stand p l e ({ frames := 2, cells := 0, slots := 0, locals := 27 } : Room) s m #[(.ref tb), (.int (0 : Int32))] below meth c s₁ [] 0 0 := Stand.of_body Bd
  have e0 : s₁.heap = h0 := by rw [← hh, Bd.state]; rfl
  have N0 := Fr.nil n0
  have pre0 : ∀ t, Steps p.tables e below (s₁.setTop (mkF m 0 #[.val (.ref tb), .val (.int (0 : Int32))] [])) t → Steps p.tables e below (s₁.setTop (entryFrame m #[(.ref tb), (.int (0 : Int32))] 2)) t := fun t k => castTop (ef_rmLch1_0 m tb (0 : Int32)) k
  have oz := OLD.1
  have lt_tb : tb < h0.size := P1.lt
  refine own_go (B := s₁.setTop (mkF m 0 #[.val (.ref tb), .val (.int (0 : Int32))] [])) pre0 ?_
  show ∃ t o, Steps p.tables e below (s₁.setTop (mkF m 0 #[.val (.ref tb), .val (.int (0 : Int32))] [])) t ∧ _
  refine own_go (fun _ => XS.iloadN X0.here hx rfl (hb hby d15_0) rfl) ?_
  refine own_go (fun _ => XS.aloadN X0.here hx rfl (hb hby d15_1) rfl rfl) ?_
  obtain ⟨cl3, Ar3, q3, S3, N3, H3, G3⟩ := id P1
  have ln3 : cl3.slots.size.toInt32 = (1 : Int32) := len_of S3 N3
  have al3 := X0.arraylength hx (by rw [e0]; exact Ar3.1) (State.isArrayOf_alike hZ.alike Ar3.2.1) (g := (mkF m 2 #[.val (.ref tb), .val (.int (0 : Int32))] [(.ref tb), (.int (0 : Int32))])) rfl rfl (hb hby d15_2)
  rw [ln3] at al3
  refine own_go al3 ?_
  show ∃ t o, Steps p.tables e below (s₁.setTop (mkF m 3 #[.val (.ref tb), .val (.int (0 : Int32))] [(.int (1 : Int32)), (.int (0 : Int32))])) t ∧ _
  obtain ⟨_, _, ⟨T4, L4, k4, n4⟩, -, X4, ⟨Lc4, hQ4, l4, y4, z4⟩, st4⟩ := Jvm.LawKit.callS X0 hx (y := (⟨"java/lang/String", "checkIndex", "(II)V"⟩ : MethodName)) hown (mvT hZ (hw _ (List.mem_of_getElem? (i := 75) rfl))) (mvT hZ (hw _ (List.mem_of_getElem? (i := 76) rfl))) (mvT hZ (hw _ (List.mem_of_getElem? (i := 7) rfl))) (mvT hZ (hw _ (List.mem_of_getElem? (i := 77) rfl))) (by decide) (backOf (W := 0) (rmCi l Z a0 hw [] (0 : Int32) (1 : Int32) gv h0 n0 Z0 OLD P2 hgv (by decide) (by decide)) hZ (hw _ (List.mem_of_getElem? (i := 77) rfl)) (hw _ (List.mem_of_getElem? (i := 7) rfl)) (by decide) (by decide)) (g := (mkF m 3 #[.val (.ref tb), .val (.int (0 : Int32))] [(.int (1 : Int32)), (.int (0 : Int32))])) rfl (by rw [hml]; rfl) (argsL := [(.int (0 : Int32)), (.int (1 : Int32))]) (rest := []) (lenOf pd__28II_29V rfl) rfl (by show 2 * 0 + _ ≤ _; exact Nat.le_of_eq rfl) (hb hby d15_3) (fun _ _ => ⟨rfl, e0, (by decide : 0 + 0 ≤ _), (by decide : 0 + 0 ≤ _)⟩)
  dsimp only [Pt.U, Pt.locs, Pt.cells, Pt.slots] at X4 l4 y4 z4 st4 hQ4
  subst l4 y4 z4
  obtain ⟨rfl, Nq4, e4⟩ := hQ4
  have N4 := Fr.app N0 Nq4
  refine own_go st4 ?_
  refine own_go (fun _ => XS.aloadN X4.here hx rfl (hb hby d15_6) rfl rfl) ?_
  refine own_go (fun _ => XS.iloadN X4.here hx rfl (hb hby d15_7) rfl) ?_
  show ∃ t o, Steps p.tables e below (T4.setTop (mkF m 8 #[.val (.ref tb), .val (.int (0 : Int32))] [(.int (0 : Int32)), (.ref tb)])) t ∧ _
  obtain ⟨cl5, Ar5, q5, S5, N5, H5, G5⟩ := id P1
  have hin5 : ¬ ((0 : Int32) < 0 ∨ cl5.slots.size ≤ ((0 : Int32)).toNatClampNeg) := inb_of S5 ⟨by decide, by decide⟩
  have hat5 : cl5.slots[((0 : Int32)).toNatClampNeg]? = some (.int (c0.toInt8.toInt32)) := Has.at H5 hin5 rfl
  refine own_go (fun _ => X4.baloadBytes hx (j := (0 : Int32)) (v := (.int (c0.toInt8.toInt32))) (by rw [e4]; exact Ar5.1) (State.isArrayOf_alike hZ.alike Ar5.2.1) Ar5.2.2 hin5 hat5 (g := (mkF m 8 #[.val (.ref tb), .val (.int (0 : Int32))] [(.int (0 : Int32)), (.ref tb)])) rfl rfl (hb hby d15_8) _) ?_
  refine own_go (fun _ => XS.sipush X4.here hx rfl (hb hby d15_9)) ?_
  refine own_go (fun _ => XS.iand X4.here hx rfl (hb hby d15_12) rfl) ?_
  show ∃ t o, Steps p.tables e below (T4.setTop (mkF m 13 #[.val (.ref tb), .val (.int (0 : Int32))] [(.int ((c0.toInt8.toInt32) &&& (255 : Int32)))])) t ∧ _
  refine own_go (fun _ => XS.i2c X4.here hx rfl (hb hby d15_13) rfl) ?_
  show ∃ t o, Steps p.tables e below (T4.setTop (mkF m 14 #[.val (.ref tb), .val (.int (0 : Int32))] [(.int (((c0.toInt8.toInt32) &&& (255 : Int32)).toUInt32.toUInt16.toUInt32.toInt32))])) t ∧ _
  obtain ⟨fs, hr, hrun, hended, hW, hsame⟩ := X4.leave (v := some (.int (nar .char (((c0.toInt8.toInt32) &&& (255 : Int32)).toUInt32.toUInt16.toUInt32.toInt32)))) (fun h => by rw [Bd.returns] at h; cases h)
  refine ⟨_, _, ?_, hrun, hended, _, _, rfl, ?_, ⟨_, rfl⟩, hW, hsame.mono (by decide) (by decide)⟩
  · exact retN X4 hx (t := .char) Bd.returns (by simp) (hb hby d15_14) hr
  · show Q_rmLch1_0 Z _ _ _ _ h0 n0 _ T4.heap _
    rw [e4]
    exact ⟨(congrArg (fun z => some (Value.int z)) (own_back hrg)), N4, rfl⟩
theorem ef_rmCh1_0 (m : MethodId) (x0 : Nat) (x1 : Int32) : entryFrame m #[(.ref x0), (.int x1)] 2 = mkF m 0 #[.val (.ref x0), .val (.int x1)] [] := by first | (simp [entryFrame, mkF, argsToLocals, Value.category]; done) | rfl
theorem d13_0 : decode jdk_42_method_56_code 0 = .ok (.aload_n 0, 1) := by decide +kernel
theorem d13_1 : decode jdk_42_method_56_code 1 = .ok (.invokevirtual 492, 3) := by decide +kernel
theorem pd__28_29Z : parseMethodDescriptor "()Z" = some ⟨[], some .boolean⟩ := by decide +kernel
theorem d13_4 : decode jdk_42_method_56_code 4 = .ok (.ifCond .eq 12, 3) := by decide +kernel
theorem d13_7 : decode jdk_42_method_56_code 7 = .ok (.aload_n 0, 1) := by decide +kernel
theorem d13_8 : decode jdk_42_method_56_code 8 = .ok (.getfield 9, 3) := by decide +kernel
theorem d13_11 : decode jdk_42_method_56_code 11 = .ok (.iload_n 1, 1) := by decide +kernel
theorem d13_12 : decode jdk_42_method_56_code 12 = .ok (.invokestatic 495, 3) := by decide +kernel
theorem pd__28_5bBI_29C : parseMethodDescriptor "([BI)C" = some ⟨[(.array .byte), .int], some .char⟩ := by decide +kernel
theorem d13_15 : decode jdk_42_method_56_code 15 = .ok (.ireturn, 1) := by decide +kernel
def Q_rmCh1_0 (Z : State) (so : Nat) (tb : Nat) (kb : ClassId) (c0 : Int32) (zc : Int32) (gv : Value) (h0 : Heap) (n0 : Nat) (v : Option Value) (h : Heap) (L : List Loc) : Prop := v = some (.int c0) ∧ Fr n0 L ∧ h = h0
set_option maxRecDepth 65536 in
set_option maxHeartbeats 40000000 in
theorem rmCh1_0 (l : Launch) (Z : State) (a0 : Array Value) (hw : ∀ d ∈ tables_1, d.before a0 Z = true) (ws : List Jvm.Cond) (so : Nat) (tb : Nat) (kb : ClassId) (c0 : Int32) (zc : Int32) (gv : Value) (h0 : Heap) (n0 : Nat) (Z0 : n0 ≤ h0.size) (P1 : Exa Z h0 so "java/lang/String") (P2 : Fld Z h0 so "java/lang/String" "value" "[B" (.ref tb)) (P3 : Fld Z h0 so "java/lang/String" "coder" "B" (.int (0 : Int32))) (P4 : Arv Z h0 tb kb .byte (1 : Int32) [(.int (c0.toInt8.toInt32))] (.int (0 : Int32))) (OLD : Old Z n0 h0) (P5 : Sta Z Z.heap "java/lang/String" "COMPACT_STRINGS" "Z" (.int zc)) (P6 : Sta Z Z.heap "jdk/internal/util/Preconditions" "SIOOBE_FORMATTER" "Ljava/util/function/BiFunction;" gv) (hzc : ¬ (zc = (0 : Int32))) (hgv : gv.isRef = true) (hrg : own_rg c0) :
    MetFree l (⟨"java/lang/String", "charAt", "(I)C"⟩ : MethodName) (head1 (Jvm.Cond.code (⟨"java/lang/String", "charAt", "(I)C"⟩ : MethodName) jdk_42_method_56_code 2 (some .char) :: ws) ({ frames := 3, cells := 0, slots := 0, locals := 40 } : Room)) (fun a U => a = #[(.ref so), (.int (0 : Int32))] ∧ Z.Warmed39 U.vm ∧ U.heap = h0) (fun _ _ _ _ _ => True) (fun _ U o U' => ∃ v L, o = .returned v ∧ Q_rmCh1_0 Z so tb kb c0 zc gv h0 n0 v U'.heap L ∧ FrameEnd U o U' L ({ frames := 3, cells := 0, slots := 0, locals := 40 } : Room).cells ({ frames := 3, cells := 0, slots := 0, locals := 40 } : Room).slots) := by
  refine MetFree.of_bodySF (plainFor_of_name pn_java_lang_String) hisR ?_
  intro p e s m args below meth c s₁ Bd hml0 hP hK
  obtain ⟨rfl, hZ, hh⟩ := hP
  have hx := Bd.exec
  have hby := Bd.bytes
  have hml : c.maxLocals = 2 := hml0
  have hown : s.vm.findClass "java/lang/String" = some m.cls := findClass_of_methodNamed Bd.named
  have hnm := (name_of_methodNamed Bd.named Bd.method).1
  have X0 : Stand p l e ({ frames := 3, cells := 0, slots := 0, locals := 40 } : Room) s m #[(.ref so), (.int (0 : Int32))] below meth c s₁ [] 0 0 := Stand.of_body Bd
  have e0 : s₁.heap = h0 := by rw [← hh, Bd.state]; rfl
  have N0 := Fr.nil n0
  have pre0 : ∀ t, Steps p.tables e below (s₁.setTop (mkF m 0 #[.val (.ref so), .val (.int (0 : Int32))] [])) t → Steps p.tables e below (s₁.setTop (entryFrame m #[(.ref so), (.int (0 : Int32))] 2)) t := fun t k => castTop (ef_rmCh1_0 m so (0 : Int32)) k
  have oz := OLD.1
  have lt_so : so < h0.size := P1.lt
  have lt_tb : tb < h0.size := P4.lt
  refine own_go (B := s₁.setTop (mkF m 0 #[.val (.ref so), .val (.int (0 : Int32))] [])) pre0 ?_
  show ∃ t o, Steps p.tables e below (s₁.setTop (mkF m 0 #[.val (.ref so), .val (.int (0 : Int32))] [])) t ∧ _
  refine own_go (fun _ => XS.aloadN X0.here hx rfl (hb hby d13_0) rfl rfl) ?_
  show ∃ t o, Steps p.tables e below (s₁.setTop (mkF m 1 #[.val (.ref so), .val (.int (0 : Int32))] [(.ref so)])) t ∧ _
  obtain ⟨cq7, kq7, q7a, q7b, q7c⟩ := isOf hZ e0 P1
  obtain ⟨_, _, ⟨T7, L7, k7, n7⟩, -, X7, ⟨Lc7, hQ7, l7, y7, z7⟩, st7⟩ := X0.virtualBack hx (y := (⟨"java/lang/String", "isLatin1", "()Z"⟩ : MethodName)) (z := (⟨"java/lang/String", "isLatin1", "()Z"⟩ : MethodName)) hown (mvT hZ (hw _ (List.mem_of_getElem? (i := 66) rfl))) (mvT hZ (hw _ (List.mem_of_getElem? (i := 67) rfl))) (notFace_of_selects (args := #[]) (mvT hZ (hw _ (List.mem_of_getElem? (i := 69) rfl)))) (mvT hZ (hw _ (List.mem_of_getElem? (i := 69) rfl))) (mvT hZ (hw _ (List.mem_of_getElem? (i := 68) rfl))) (by decide) (backOf (W := 0) (rmLat l Z a0 hw [] so zc h0 n0 Z0 P3 OLD P5 hzc) hZ (hw _ (List.mem_of_getElem? (i := 70) rfl)) (hw _ (List.mem_of_getElem? (i := 7) rfl)) (by decide) (by decide)) q7a q7c (g := (mkF m 1 #[.val (.ref so), .val (.int (0 : Int32))] [(.ref so)])) rfl (by rw [hml]; rfl) (Steps.refl _) (argsL := []) (rest := []) (lenOf pd__28_29Z rfl) rfl (by show 2 * 0 + _ ≤ _; exact Nat.le_of_eq rfl) (hb hby d13_1) (fun _ _ => ⟨rfl, e0, (by decide : 0 + 0 ≤ _), (by decide : 0 + 0 ≤ _)⟩)
  dsimp only [Pt.U, Pt.locs, Pt.cells, Pt.slots] at X7 l7 y7 z7 st7 hQ7
  subst l7 y7 z7
  obtain ⟨rfl, Nq7, e7⟩ := hQ7
  have N7 := Fr.app N0 Nq7
  refine own_goT st7 ?_
  show ∃ t o, Steps p.tables e below (T7.setTop (mkF m 4 #[.val (.ref so), .val (.int (0 : Int32))] [(.int (1 : Int32))])) t ∧ _
  refine own_go (fun _ => XS.ifNo X7.here hx rfl (hb hby d13_4) rfl ((if0 _ _).trans (feq (by decide : ¬ ((1 : Int32) = (0 : Int32)))).1)) ?_
  refine own_go (fun _ => XS.aloadN X7.here hx rfl (hb hby d13_7) rfl rfl) ?_
  obtain ⟨T8, X8, e8, st8⟩ := getF X7 hx hZ hown (host := "") (Or.inl (hw _ (List.mem_of_getElem? (i := 33) rfl))) Via.refl e7 P2 (g := (mkF m 8 #[.val (.ref so), .val (.int (0 : Int32))] [(.ref so)])) rfl rfl (hb hby d13_8)
  refine own_go st8 ?_
  show ∃ t o, Steps p.tables e below (T8.setTop (mkF m 11 #[.val (.ref so), .val (.int (0 : Int32))] [(.ref tb)])) t ∧ _
  refine own_go (fun _ => XS.iloadN X8.here hx rfl (hb hby d13_11) rfl) ?_
  show ∃ t o, Steps p.tables e below (T8.setTop (mkF m 12 #[.val (.ref so), .val (.int (0 : Int32))] [(.int (0 : Int32)), (.ref tb)])) t ∧ _
  obtain ⟨_, _, ⟨T9, L9, k9, n9⟩, -, X9, ⟨Lc9, hQ9, l9, y9, z9⟩, st9⟩ := Jvm.LawKit.callS X8 hx (y := (⟨"java/lang/StringLatin1", "charAt", "([BI)C"⟩ : MethodName)) hown (mvT hZ (hw _ (List.mem_of_getElem? (i := 71) rfl))) (mvT hZ (hw _ (List.mem_of_getElem? (i := 72) rfl))) (mvT hZ (hw _ (List.mem_of_getElem? (i := 73) rfl))) (mvT hZ (hw _ (List.mem_of_getElem? (i := 74) rfl))) (by decide) (backOf (W := 0) (rmLch1_0 l Z a0 hw [] tb kb c0 gv h0 n0 Z0 P4 OLD P6 hrg hgv) hZ (hw _ (List.mem_of_getElem? (i := 74) rfl)) (hw _ (List.mem_of_getElem? (i := 73) rfl)) (by decide) (by decide)) (g := (mkF m 12 #[.val (.ref so), .val (.int (0 : Int32))] [(.int (0 : Int32)), (.ref tb)])) rfl (by rw [hml]; rfl) (argsL := [(.ref tb), (.int (0 : Int32))]) (rest := []) (lenOf pd__28_5bBI_29C rfl) rfl (by show 2 * 0 + _ ≤ _; exact Nat.le_of_eq rfl) (hb hby d13_12) (fun _ _ => ⟨rfl, e8, (by decide : 0 + 0 ≤ _), (by decide : 0 + 0 ≤ _)⟩)
  dsimp only [Pt.U, Pt.locs, Pt.cells, Pt.slots] at X9 l9 y9 z9 st9 hQ9
  subst l9 y9 z9
  obtain ⟨rfl, Nq9, e9⟩ := hQ9
  have N9 := Fr.app N7 Nq9
  refine own_go st9 ?_
  show ∃ t o, Steps p.tables e below (T9.setTop (mkF m 15 #[.val (.ref so), .val (.int (0 : Int32))] [(.int c0)])) t ∧ _
  obtain ⟨fs, hr, hrun, hended, hW, hsame⟩ := X9.leave (v := some (.int (nar .char c0))) (fun h => by rw [Bd.returns] at h; cases h)
  refine ⟨_, _, ?_, hrun, hended, _, _, rfl, ?_, ⟨_, rfl⟩, hW, hsame.mono (by decide) (by decide)⟩
  · exact retN X9 hx (t := .char) Bd.returns (by simp) (hb hby d13_15) hr
  · show Q_rmCh1_0 Z _ _ _ _ _ _ h0 n0 _ T9.heap _
    rw [e9]
    exact ⟨(congrArg (fun z => some (Value.int z)) (own_narc hrg)), N9, rfl⟩
theorem ef_rmOf1 (m : MethodId) (x0 : Nat) : entryFrame m #[(.ref x0)] 2 = mkF m 0 #[.val (.ref x0), .unset] [] := by first | (simp [entryFrame, mkF, argsToLocals, Value.category]; done) | rfl
theorem d8_0 : decode prog_6_method_2_code 0 = .ok (.aload_n 0, 1) := by decide +kernel
theorem d8_1 : decode prog_6_method_2_code 1 = .ok (.ldc 13, 2) := by decide +kernel
theorem d8_3 : decode prog_6_method_2_code 3 = .ok (.invokestatic 14, 3) := by decide +kernel
theorem pd_hb4046d0a : parseMethodDescriptor "(Ljava/lang/Object;Ljava/lang/String;)Ljava/lang/Object;" = some ⟨[(.object "java/lang/Object"), (.object "java/lang/String")], some (.object "java/lang/Object")⟩ := by decide +kernel
theorem d8_6 : decode prog_6_method_2_code 6 = .ok (.pop, 1) := by decide +kernel
theorem d8_7 : decode prog_6_method_2_code 7 = .ok (.aload_n 0, 1) := by decide +kernel
theorem d8_8 : decode prog_6_method_2_code 8 = .ok (.invokevirtual 20, 3) := by decide +kernel
theorem d8_11 : decode prog_6_method_2_code 11 = .ok (.ifCond .ne 12, 3) := by decide +kernel
theorem d8_14 : decode prog_6_method_2_code 14 = .ok (.aload_n 0, 1) := by decide +kernel
theorem d8_15 : decode prog_6_method_2_code 15 = .ok (.invokevirtual 26, 3) := by decide +kernel
theorem pd__28_29I : parseMethodDescriptor "()I" = some ⟨[], some .int⟩ := by decide +kernel
theorem d8_18 : decode prog_6_method_2_code 18 = .ok (.bipush 100, 2) := by decide +kernel
theorem d8_20 : decode prog_6_method_2_code 20 = .ok (.if_icmp .le 20, 3) := by decide +kernel
theorem d8_40 : decode prog_6_method_2_code 40 = .ok (.iconst 0, 1) := by decide +kernel
theorem d8_41 : decode prog_6_method_2_code 41 = .ok (.istore_n 1, 1) := by decide +kernel
theorem d8_42 : decode prog_6_method_2_code 42 = .ok (.iload_n 1, 1) := by decide +kernel
theorem d8_43 : decode prog_6_method_2_code 43 = .ok (.aload_n 0, 1) := by decide +kernel
theorem d8_44 : decode prog_6_method_2_code 44 = .ok (.invokevirtual 26, 3) := by decide +kernel
theorem d8_47 : decode prog_6_method_2_code 47 = .ok (.if_icmp .ge 55, 3) := by decide +kernel
theorem d8_50 : decode prog_6_method_2_code 50 = .ok (.aload_n 0, 1) := by decide +kernel
theorem d8_51 : decode prog_6_method_2_code 51 = .ok (.iload_n 1, 1) := by decide +kernel
theorem d8_52 : decode prog_6_method_2_code 52 = .ok (.invokevirtual 39, 3) := by decide +kernel
theorem pd__28I_29C : parseMethodDescriptor "(I)C" = some ⟨[.int], some .char⟩ := by decide +kernel
theorem d8_55 : decode prog_6_method_2_code 55 = .ok (.invokestatic 43, 3) := by decide +kernel
theorem pd__28C_29Z : parseMethodDescriptor "(C)Z" = some ⟨[.char], some .boolean⟩ := by decide +kernel
theorem d8_58 : decode prog_6_method_2_code 58 = .ok (.ifCond .ne 38, 3) := by decide +kernel
theorem d8_96 : decode prog_6_method_2_code 96 = .ok (.iinc 1 1, 3) := by decide +kernel
theorem d8_99 : decode prog_6_method_2_code 99 = .ok (.goto (-57), 3) := by decide +kernel
theorem d8_102 : decode prog_6_method_2_code 102 = .ok (.new 8, 3) := by decide +kernel
theorem d8_105 : decode prog_6_method_2_code 105 = .ok (.dup, 1) := by decide +kernel
theorem d8_106 : decode prog_6_method_2_code 106 = .ok (.aload_n 0, 1) := by decide +kernel
theorem d8_107 : decode prog_6_method_2_code 107 = .ok (.invokespecial 63, 3) := by decide +kernel
theorem pd__28Ljava_2flang_2fString_3b_29V : parseMethodDescriptor "(Ljava/lang/String;)V" = some ⟨[(.object "java/lang/String")], none⟩ := by decide +kernel
theorem d8_110 : decode prog_6_method_2_code 110 = .ok (.areturn, 1) := by decide +kernel
def Q_rmOf1 (Z : State) (so : Nat) (tb : Nat) (kb : ClassId) (c0 : Int32) (zc : Int32) (gv : Value) (h0 : Heap) (n0 : Nat) (v : Option Value) (h : Heap) (L : List Loc) : Prop := ∃ (b : Nat), v = some (.ref b) ∧ Fr n0 L ∧ Keep h0 h [] ∧ Exa Z h b "com/example/libtardy/libtardy/QueueName" ∧ Fld Z h b "com/example/libtardy/libtardy/QueueName" "name" "Ljava/lang/String;" (.ref so)
set_option maxRecDepth 65536 in
set_option maxHeartbeats 40000000 in
theorem rmOf1 (l : Launch) (Z : State) (a0 : Array Value) (hw : ∀ d ∈ tables_1, d.before a0 Z = true) (ws : List Jvm.Cond) (so : Nat) (tb : Nat) (kb : ClassId) (c0 : Int32) (zc : Int32) (gv : Value) (h0 : Heap) (n0 : Nat) (Z0 : n0 ≤ h0.size) (P1 : Exa Z h0 so "java/lang/String") (P2 : Fld Z h0 so "java/lang/String" "value" "[B" (.ref tb)) (P3 : Fld Z h0 so "java/lang/String" "coder" "B" (.int (0 : Int32))) (P4 : Arv Z h0 tb kb .byte (1 : Int32) [(.int (c0.toInt8.toInt32))] (.int (0 : Int32))) (OLD : Old Z n0 h0) (P5 : Sta Z Z.heap "java/lang/String" "COMPACT_STRINGS" "Z" (.int zc)) (P6 : Sta Z Z.heap "jdk/internal/util/Preconditions" "SIOOBE_FORMATTER" "Ljava/util/function/BiFunction;" gv) (hzc : ¬ (zc = (0 : Int32))) (hgv : gv.isRef = true) (ok0 : own_ok c0) :
    MetFree l (⟨"com/example/libtardy/libtardy/QueueName", "of", "(Ljava/lang/String;)Lcom/example/libtardy/libtardy/QueueName;"⟩ : MethodName) (head1 (Jvm.Cond.code (⟨"com/example/libtardy/libtardy/QueueName", "of", "(Ljava/lang/String;)Lcom/example/libtardy/libtardy/QueueName;"⟩ : MethodName) prog_6_method_2_code 2 (some (.object "com/example/libtardy/libtardy/QueueName")) :: ws) ({ frames := 4, cells := 3, slots := 21, locals := 53 } : Room)) (fun a U => a = #[(.ref so)] ∧ Z.Warmed39 U.vm ∧ U.heap = h0) (fun _ _ _ _ _ => True) (fun _ U o U' => ∃ v L, o = .returned v ∧ Q_rmOf1 Z so tb kb c0 zc gv h0 n0 v U'.heap L ∧ ReturnedEndW U o U' L ({ frames := 4, cells := 3, slots := 21, locals := 53 } : Room).cells ({ frames := 4, cells := 3, slots := 21, locals := 53 } : Room).slots) := by
  refine MetFree.of_bodySF (plainFor_of_name pn_com_example_libtardy_libtardy_QueueName) hisR ?_
  intro p e s m args below meth c s₁ Bd hml0 hP hK
  obtain ⟨rfl, hZ, hh⟩ := hP
  have hx := Bd.exec
  have hby := Bd.bytes
  have hml : c.maxLocals = 2 := hml0
  have hown : s.vm.findClass "com/example/libtardy/libtardy/QueueName" = some m.cls := findClass_of_methodNamed Bd.named
  have hnm := (name_of_methodNamed Bd.named Bd.method).1
  have X0 : Stand p l e ({ frames := 4, cells := 3, slots := 21, locals := 53 } : Room) (s.setVm s.vm) m #[(.ref so)] below meth c s₁ [] 0 0 := Stand.of_body Bd
  have e0 : s₁.heap = h0 := by rw [← hh, Bd.state]; rfl
  have N0 := Fr.nil n0
  have pre0 : ∀ t, Steps p.tables e below (s₁.setTop (mkF m 0 #[.val (.ref so), .unset] [])) t → Steps p.tables e below (s₁.setTop (entryFrame m #[(.ref so)] 2)) t := fun t k => castTop (ef_rmOf1 m so) k
  have hZ : Z.Warmed39 (s.setVm s.vm).vm := hZ
  have hown : (s.setVm s.vm).vm.findClass "com/example/libtardy/libtardy/QueueName" = some m.cls := hown
  have hS : s.Since s.vm 0 := (State.WarmedH.refl s).since 0
  have wS : ∀ a ∈ Bundle.stringAtoms, a.before a0 Z = true := fun d hd => hw d ((by decide +kernel : ∀ d ∈ Bundle.stringAtoms, d ∈ tables_1) d hd)
  have oz := OLD.1
  have lt_so : so < h0.size := P1.lt
  have lt_tb : tb < h0.size := P4.lt
  refine own_go (B := s₁.setTop (mkF m 0 #[.val (.ref so), .unset] [])) pre0 ?_
  show ∃ t o, Steps p.tables e below (s₁.setTop (mkF m 0 #[.val (.ref so), .unset] [])) t ∧ _
  refine own_go (fun _ => XS.aloadN X0.here hx rfl (hb hby d8_0) rfl rfl) ?_
  obtain ⟨a7, T7, h7, kS7, X7, e7, E7, hS, hk7, hZ, hown, st7⟩ := ldcS X0 hx hZ hown (hw _ (List.mem_of_getElem? (i := 39) rfl)) wS e0 hS (Nat.zero_le _) (g := (mkF m 1 #[.val (.ref so), .unset] [(.ref so)])) rfl (hb hby d8_1) (n := 16) (by decide) (by decide) (by decide) (by decide)
  refine own_go st7 ?_
  have K7 : Keep h0 h7 [] := Keep.ext (Keep.refl h0 []) E7
  have le_7 : h0.size ≤ h7.size := E7.1
  show ∃ t o, Steps p.tables e below (T7.setTop (mkF m 3 #[.val (.ref so), .unset] [(.ref a7), (.ref so)])) t ∧ _
  have F8 : Old Z n0 h7 := (OLD.ext E7)
  have zl9 : n0 ≤ h7.size := by omega
  obtain ⟨_, _, ⟨T10, L10, k10, n10⟩, -, X10, ⟨Lc10, hQ10, l10, y10, z10⟩, st10⟩ := Jvm.LawKit.callS X7 hx (y := (⟨"java/util/Objects", "requireNonNull", "(Ljava/lang/Object;Ljava/lang/String;)Ljava/lang/Object;"⟩ : MethodName)) hown (mvT hZ (hw _ (List.mem_of_getElem? (i := 42) rfl))) (mvT hZ (hw _ (List.mem_of_getElem? (i := 43) rfl))) (mvT hZ (hw _ (List.mem_of_getElem? (i := 44) rfl))) (mvT hZ (hw _ (List.mem_of_getElem? (i := 45) rfl))) (by decide) (backOf (W := 0) (rmRnn l Z a0 hw [] so a7 h7 n0 zl9 F8) hZ (hw _ (List.mem_of_getElem? (i := 45) rfl)) (hw _ (List.mem_of_getElem? (i := 44) rfl)) (by decide) (by decide)) (g := (mkF m 3 #[.val (.ref so), .unset] [(.ref a7), (.ref so)])) rfl (by rw [hml]; rfl) (argsL := [(.ref so), (.ref a7)]) (rest := []) (lenOf pd_hb4046d0a rfl) rfl (by show 2 * 0 + _ ≤ _; exact Nat.le_of_eq rfl) (hb hby d8_3) (fun _ _ => ⟨rfl, e7, (by decide : 2 + 0 ≤ _), (by decide : 20 + 0 ≤ _)⟩)
  dsimp only [Pt.U, Pt.locs, Pt.cells, Pt.slots] at X10 l10 y10 z10 st10 hQ10
  subst l10 y10 z10
  obtain ⟨rfl, Nq10, e10⟩ := hQ10
  have N10 := Fr.app N0 Nq10
  refine own_go st10 ?_
  refine own_go (fun _ => XS.pop X10.here hx rfl (hb hby d8_6) rfl rfl) ?_
  refine own_go (fun _ => XS.aloadN X10.here hx rfl (hb hby d8_7) rfl rfl) ?_
  show ∃ t o, Steps p.tables e below (T10.setTop (mkF m 8 #[.val (.ref so), .unset] [(.ref so)])) t ∧ _
  have F11 : Exa Z h7 so "java/lang/String" := (Exa.ext E7 P1)
  have F12 : Fld Z h7 so "java/lang/String" "value" "[B" (.ref tb) := (Fld.ext E7 P2)
  have F13 : Fld Z h7 so "java/lang/String" "coder" "B" (.int (0 : Int32)) := (Fld.ext E7 P3)
  have F14 : Arv Z h7 tb kb .byte (1 : Int32) [(.int (c0.toInt8.toInt32))] (.int (0 : Int32)) := (P4.ext E7)
  obtain ⟨cq15, kq15, q15a, q15b, q15c⟩ := isOf hZ e10 F11
  obtain ⟨_, _, ⟨T15, L15, k15, n15⟩, -, X15, ⟨Lc15, hQ15, l15, y15, z15⟩, st15⟩ := X10.virtualBack hx (y := (⟨"java/lang/String", "isEmpty", "()Z"⟩ : MethodName)) (z := (⟨"java/lang/String", "isEmpty", "()Z"⟩ : MethodName)) hown (mvT hZ (hw _ (List.mem_of_getElem? (i := 46) rfl))) (mvT hZ (hw _ (List.mem_of_getElem? (i := 47) rfl))) (notFace_of_selects (args := #[]) (mvT hZ (hw _ (List.mem_of_getElem? (i := 49) rfl)))) (mvT hZ (hw _ (List.mem_of_getElem? (i := 49) rfl))) (mvT hZ (hw _ (List.mem_of_getElem? (i := 48) rfl))) (by decide) (backOf (W := 0) (rmEmp1 l Z a0 hw [] so tb kb c0 h7 n0 zl9 F11 F12 F13 F14 F8) hZ (hw _ (List.mem_of_getElem? (i := 50) rfl)) (hw _ (List.mem_of_getElem? (i := 7) rfl)) (by decide) (by decide)) q15a q15c (g := (mkF m 8 #[.val (.ref so), .unset] [(.ref so)])) rfl (by rw [hml]; rfl) (Steps.refl _) (argsL := []) (rest := []) (lenOf pd__28_29Z rfl) rfl (by show 2 * 0 + _ ≤ _; exact Nat.le_of_eq rfl) (hb hby d8_8) (fun _ _ => ⟨rfl, e10, (by decide : 2 + 0 ≤ _), (by decide : 20 + 0 ≤ _)⟩)
  dsimp only [Pt.U, Pt.locs, Pt.cells, Pt.slots] at X15 l15 y15 z15 st15 hQ15
  subst l15 y15 z15
  obtain ⟨rfl, Nq15, e15⟩ := hQ15
  have N15 := Fr.app N10 Nq15
  refine own_goT st15 ?_
  show ∃ t o, Steps p.tables e below (T15.setTop (mkF m 11 #[.val (.ref so), .unset] [(.int (0 : Int32))])) t ∧ _
  refine own_go (fun _ => XS.ifNo X15.here hx rfl (hb hby d8_11) rfl ((if0 _ _).trans (teq (by decide : (0 : Int32) = (0 : Int32))).2)) ?_
  refine own_go (fun _ => XS.aloadN X15.here hx rfl (hb hby d8_14) rfl rfl) ?_
  show ∃ t o, Steps p.tables e below (T15.setTop (mkF m 15 #[.val (.ref so), .unset] [(.ref so)])) t ∧ _
  obtain ⟨cq16, kq16, q16a, q16b, q16c⟩ := isOf hZ e15 F11
  obtain ⟨_, _, ⟨T16, L16, k16, n16⟩, -, X16, ⟨Lc16, hQ16, l16, y16, z16⟩, st16⟩ := X15.virtualBack hx (y := (⟨"java/lang/String", "length", "()I"⟩ : MethodName)) (z := (⟨"java/lang/String", "length", "()I"⟩ : MethodName)) hown (mvT hZ (hw _ (List.mem_of_getElem? (i := 51) rfl))) (mvT hZ (hw _ (List.mem_of_getElem? (i := 52) rfl))) (notFace_of_selects (args := #[]) (mvT hZ (hw _ (List.mem_of_getElem? (i := 54) rfl)))) (mvT hZ (hw _ (List.mem_of_getElem? (i := 54) rfl))) (mvT hZ (hw _ (List.mem_of_getElem? (i := 53) rfl))) (by decide) (backOf (W := 0) (rmLen1 l Z a0 hw [] so tb kb c0 zc h7 n0 zl9 F11 F12 F13 F14 F8 P5 hzc) hZ (hw _ (List.mem_of_getElem? (i := 55) rfl)) (hw _ (List.mem_of_getElem? (i := 7) rfl)) (by decide) (by decide)) q16a q16c (g := (mkF m 15 #[.val (.ref so), .unset] [(.ref so)])) rfl (by rw [hml]; rfl) (Steps.refl _) (argsL := []) (rest := []) (lenOf pd__28_29I rfl) rfl (by show 2 * 0 + _ ≤ _; exact Nat.le_of_eq rfl) (hb hby d8_15) (fun _ _ => ⟨rfl, e15, (by decide : 2 + 0 ≤ _), (by decide : 20 + 0 ≤ _)⟩)
  dsimp only [Pt.U, Pt.locs, Pt.cells, Pt.slots] at X16 l16 y16 z16 st16 hQ16
  subst l16 y16 z16
  obtain ⟨rfl, Nq16, e16⟩ := hQ16
  have N16 := Fr.app N15 Nq16
  refine own_goT st16 ?_
  refine own_go (fun _ => XS.bipush X16.here hx rfl (hb hby d8_18)) ?_
  show ∃ t o, Steps p.tables e below (T16.setTop (mkF m 20 #[.val (.ref so), .unset] [(.int (100 : Int32)), (.int (1 : Int32))])) t ∧ _
  refine own_go (fun _ => XS.icmpYes X16.here hx rfl (pc0 := 20) (pc' := 40) rfl (hb hby d8_20) rfl (flt (by decide : ¬ ((100 : Int32) < (1 : Int32)))).2.2.2 (by decide) (by decide)) ?_
  refine own_go (fun _ => XS.iconst X16.here hx rfl (hb hby d8_40)) ?_
  refine own_go (fun _ => XS.istoreN X16.here hx rfl (hb hby d8_41) rfl (l' := #[.val (.ref so), .val (.int (0 : Int32))]) rfl) ?_
  show ∃ t o, Steps p.tables e below (T16.setTop (mkF m 42 #[.val (.ref so), .val (.int (0 : Int32))] [])) t ∧ _
  refine own_go (fun _ => XS.iloadN X16.here hx rfl (hb hby d8_42) rfl) ?_
  refine own_go (fun _ => XS.aloadN X16.here hx rfl (hb hby d8_43) rfl rfl) ?_
  show ∃ t o, Steps p.tables e below (T16.setTop (mkF m 44 #[.val (.ref so), .val (.int (0 : Int32))] [(.ref so), (.int (0 : Int32))])) t ∧ _
  obtain ⟨cq17, kq17, q17a, q17b, q17c⟩ := isOf hZ e16 F11
  obtain ⟨_, _, ⟨T17, L17, k17, n17⟩, -, X17, ⟨Lc17, hQ17, l17, y17, z17⟩, st17⟩ := X16.virtualBack hx (y := (⟨"java/lang/String", "length", "()I"⟩ : MethodName)) (z := (⟨"java/lang/String", "length", "()I"⟩ : MethodName)) hown (mvT hZ (hw _ (List.mem_of_getElem? (i := 51) rfl))) (mvT hZ (hw _ (List.mem_of_getElem? (i := 52) rfl))) (notFace_of_selects (args := #[]) (mvT hZ (hw _ (List.mem_of_getElem? (i := 54) rfl)))) (mvT hZ (hw _ (List.mem_of_getElem? (i := 54) rfl))) (mvT hZ (hw _ (List.mem_of_getElem? (i := 53) rfl))) (by decide) (backOf (W := 1) (rmLen1 l Z a0 hw [] so tb kb c0 zc h7 n0 zl9 F11 F12 F13 F14 F8 P5 hzc) hZ (hw _ (List.mem_of_getElem? (i := 55) rfl)) (hw _ (List.mem_of_getElem? (i := 7) rfl)) (by decide) (by decide)) q17a q17c (g := (mkF m 44 #[.val (.ref so), .val (.int (0 : Int32))] [(.ref so), (.int (0 : Int32))])) rfl (by rw [hml]; rfl) (Steps.refl _) (argsL := []) (rest := [(.int (0 : Int32))]) (lenOf pd__28_29I rfl) rfl (by show 2 * 0 + _ ≤ _; exact Nat.le_of_eq rfl) (hb hby d8_44) (fun _ _ => ⟨rfl, e16, (by decide : 2 + 0 ≤ _), (by decide : 20 + 0 ≤ _)⟩)
  dsimp only [Pt.U, Pt.locs, Pt.cells, Pt.slots] at X17 l17 y17 z17 st17 hQ17
  subst l17 y17 z17
  obtain ⟨rfl, Nq17, e17⟩ := hQ17
  have N17 := Fr.app N16 Nq17
  refine own_goT st17 ?_
  show ∃ t o, Steps p.tables e below (T17.setTop (mkF m 47 #[.val (.ref so), .val (.int (0 : Int32))] [(.int (1 : Int32)), (.int (0 : Int32))])) t ∧ _
  refine own_go (fun _ => XS.icmpNo X17.here hx rfl (hb hby d8_47) rfl (tlt (by decide : (0 : Int32) < (1 : Int32))).2.1) ?_
  refine own_go (fun _ => XS.aloadN X17.here hx rfl (hb hby d8_50) rfl rfl) ?_
  refine own_go (fun _ => XS.iloadN X17.here hx rfl (hb hby d8_51) rfl) ?_
  show ∃ t o, Steps p.tables e below (T17.setTop (mkF m 52 #[.val (.ref so), .val (.int (0 : Int32))] [(.int (0 : Int32)), (.ref so)])) t ∧ _
  obtain ⟨cq18, kq18, q18a, q18b, q18c⟩ := isOf hZ e17 F11
  obtain ⟨_, _, ⟨T18, L18, k18, n18⟩, -, X18, ⟨Lc18, hQ18, l18, y18, z18⟩, st18⟩ := X17.virtualBack hx (y := (⟨"java/lang/String", "charAt", "(I)C"⟩ : MethodName)) (z := (⟨"java/lang/String", "charAt", "(I)C"⟩ : MethodName)) hown (mvT hZ (hw _ (List.mem_of_getElem? (i := 61) rfl))) (mvT hZ (hw _ (List.mem_of_getElem? (i := 62) rfl))) (notFace_of_selects (args := #[]) (mvT hZ (hw _ (List.mem_of_getElem? (i := 64) rfl)))) (mvT hZ (hw _ (List.mem_of_getElem? (i := 64) rfl))) (mvT hZ (hw _ (List.mem_of_getElem? (i := 63) rfl))) (by decide) (backOf (W := 0) (rmCh1_0 l Z a0 hw [] so tb kb c0 zc gv h7 n0 zl9 F11 F12 F13 F14 F8 P5 P6 hzc hgv (own_okrg ok0 : own_rg c0)) hZ (hw _ (List.mem_of_getElem? (i := 65) rfl)) (hw _ (List.mem_of_getElem? (i := 7) rfl)) (by decide) (by decide)) q18a q18c (g := (mkF m 52 #[.val (.ref so), .val (.int (0 : Int32))] [(.int (0 : Int32)), (.ref so)])) rfl (by rw [hml]; rfl) (Steps.refl _) (argsL := [(.int (0 : Int32))]) (rest := []) (lenOf pd__28I_29C rfl) rfl (by show 2 * 0 + _ ≤ _; exact Nat.le_of_eq rfl) (hb hby d8_52) (fun _ _ => ⟨rfl, e17, (by decide : 2 + 0 ≤ _), (by decide : 20 + 0 ≤ _)⟩)
  dsimp only [Pt.U, Pt.locs, Pt.cells, Pt.slots] at X18 l18 y18 z18 st18 hQ18
  subst l18 y18 z18
  obtain ⟨rfl, Nq18, e18⟩ := hQ18
  have N18 := Fr.app N17 Nq18
  refine own_goT st18 ?_
  show ∃ t o, Steps p.tables e below (T18.setTop (mkF m 55 #[.val (.ref so), .val (.int (0 : Int32))] [(.int c0)])) t ∧ _
  obtain ⟨_, _, ⟨T19, L19, k19, n19⟩, -, X19, ⟨Lc19, hQ19, l19, y19, z19⟩, st19⟩ := Jvm.LawKit.callS X18 hx (y := (⟨"com/example/libtardy/libtardy/QueueName", "isAllowed", "(C)Z"⟩ : MethodName)) hown (mvT hZ (hw _ (List.mem_of_getElem? (i := 83) rfl))) (mvT hZ (hw _ (List.mem_of_getElem? (i := 84) rfl))) (mvT hZ (hw _ (List.mem_of_getElem? (i := 37) rfl))) (mvT hZ (hw _ (List.mem_of_getElem? (i := 85) rfl))) (by decide) (backOf (W := 0) (rmIs l Z a0 hw [] c0 h7 n0 zl9 F8 (ok0 : own_ok c0)) hZ (hw _ (List.mem_of_getElem? (i := 85) rfl)) (hw _ (List.mem_of_getElem? (i := 37) rfl)) (by decide) (by decide)) (g := (mkF m 55 #[.val (.ref so), .val (.int (0 : Int32))] [(.int c0)])) rfl (by rw [hml]; rfl) (argsL := [(.int c0)]) (rest := []) (lenOf pd__28C_29Z rfl) rfl (by show 2 * 0 + _ ≤ _; exact Nat.le_of_eq rfl) (hb hby d8_55) (fun _ _ => ⟨rfl, e18, (by decide : 2 + 0 ≤ _), (by decide : 20 + 0 ≤ _)⟩)
  dsimp only [Pt.U, Pt.locs, Pt.cells, Pt.slots] at X19 l19 y19 z19 st19 hQ19
  subst l19 y19 z19
  obtain ⟨rfl, Nq19, e19⟩ := hQ19
  have N19 := Fr.app N18 Nq19
  refine own_go st19 ?_
  show ∃ t o, Steps p.tables e below (T19.setTop (mkF m 58 #[.val (.ref so), .val (.int (0 : Int32))] [(.int (1 : Int32))])) t ∧ _
  refine own_go (fun _ => XS.ifYes X19.here hx rfl (pc0 := 58) (pc' := 96) rfl (hb hby d8_58) rfl ((if0 _ _).trans (feq (by decide : ¬ ((1 : Int32) = (0 : Int32)))).2) (by decide) (by decide)) ?_
  refine own_go (fun _ => XS.iinc X19.here hx rfl (hb hby d8_96) rfl (l' := #[.val (.ref so), .val (.int (1 : Int32))]) rfl) ?_
  refine own_go (fun _ => XS.goto X19.here hx rfl (pc0 := 99) (pc' := 42) rfl (hb hby d8_99) (by decide) (by decide)) ?_
  show ∃ t o, Steps p.tables e below (T19.setTop (mkF m 42 #[.val (.ref so), .val (.int (1 : Int32))] [])) t ∧ _
  refine own_go (fun _ => XS.iloadN X19.here hx rfl (hb hby d8_42) rfl) ?_
  refine own_go (fun _ => XS.aloadN X19.here hx rfl (hb hby d8_43) rfl rfl) ?_
  show ∃ t o, Steps p.tables e below (T19.setTop (mkF m 44 #[.val (.ref so), .val (.int (1 : Int32))] [(.ref so), (.int (1 : Int32))])) t ∧ _
  obtain ⟨cq20, kq20, q20a, q20b, q20c⟩ := isOf hZ e19 F11
  obtain ⟨_, _, ⟨T20, L20, k20, n20⟩, -, X20, ⟨Lc20, hQ20, l20, y20, z20⟩, st20⟩ := X19.virtualBack hx (y := (⟨"java/lang/String", "length", "()I"⟩ : MethodName)) (z := (⟨"java/lang/String", "length", "()I"⟩ : MethodName)) hown (mvT hZ (hw _ (List.mem_of_getElem? (i := 51) rfl))) (mvT hZ (hw _ (List.mem_of_getElem? (i := 52) rfl))) (notFace_of_selects (args := #[]) (mvT hZ (hw _ (List.mem_of_getElem? (i := 54) rfl)))) (mvT hZ (hw _ (List.mem_of_getElem? (i := 54) rfl))) (mvT hZ (hw _ (List.mem_of_getElem? (i := 53) rfl))) (by decide) (backOf (W := 1) (rmLen1 l Z a0 hw [] so tb kb c0 zc h7 n0 zl9 F11 F12 F13 F14 F8 P5 hzc) hZ (hw _ (List.mem_of_getElem? (i := 55) rfl)) (hw _ (List.mem_of_getElem? (i := 7) rfl)) (by decide) (by decide)) q20a q20c (g := (mkF m 44 #[.val (.ref so), .val (.int (1 : Int32))] [(.ref so), (.int (1 : Int32))])) rfl (by rw [hml]; rfl) (Steps.refl _) (argsL := []) (rest := [(.int (1 : Int32))]) (lenOf pd__28_29I rfl) rfl (by show 2 * 0 + _ ≤ _; exact Nat.le_of_eq rfl) (hb hby d8_44) (fun _ _ => ⟨rfl, e19, (by decide : 2 + 0 ≤ _), (by decide : 20 + 0 ≤ _)⟩)
  dsimp only [Pt.U, Pt.locs, Pt.cells, Pt.slots] at X20 l20 y20 z20 st20 hQ20
  subst l20 y20 z20
  obtain ⟨rfl, Nq20, e20⟩ := hQ20
  have N20 := Fr.app N19 Nq20
  refine own_goT st20 ?_
  show ∃ t o, Steps p.tables e below (T20.setTop (mkF m 47 #[.val (.ref so), .val (.int (1 : Int32))] [(.int (1 : Int32)), (.int (1 : Int32))])) t ∧ _
  refine own_go (fun _ => XS.icmpYes X20.here hx rfl (pc0 := 47) (pc' := 102) rfl (hb hby d8_47) rfl (flt (by decide : ¬ ((1 : Int32) < (1 : Int32)))).2.1 (by decide) (by decide)) ?_
  show ∃ t o, Steps p.tables e below (T20.setTop (mkF m 102 #[.val (.ref so), .val (.int (1 : Int32))] [])) t ∧ _
  obtain ⟨T21, h21, X21, e21, E21, A21, D21, -, st21⟩ := newO X20 hx hZ hown (hw _ (List.mem_of_getElem? (i := 86) rfl)) (hw _ (List.mem_of_getElem? (i := 87) rfl)) (hw _ (List.mem_of_getElem? (i := 37) rfl)) e20 (g := (mkF m 102 #[.val (.ref so), .val (.int (1 : Int32))] [])) rfl (hb hby d8_102) (by decide) (by decide)
  obtain ⟨b21, g21⟩ : ∃ z, z = h7.size := ⟨_, rfl⟩
  rw [← g21] at A21 D21 st21
  refine own_go st21 ?_
  have le_21 : h7.size ≤ h21.size := E21.1
  have lt_b21 : b21 < h21.size := A21.lt
  have F_name_b21 : Fld Z h21 b21 "com/example/libtardy/libtardy/QueueName" "name" "Ljava/lang/String;" .null := D21 (Or.inr (hw _ (List.mem_of_getElem? (i := 93) rfl))) (ty := (.object "java/lang/String")) (by decide)
  have K21 : Keep h0 h21 [] := Keep.ext K7 E21
  refine own_go (fun _ => XS.dup X21.here hx rfl (hb hby d8_105) rfl rfl) ?_
  refine own_go (fun _ => XS.aloadN X21.here hx rfl (hb hby d8_106) rfl rfl) ?_
  show ∃ t o, Steps p.tables e below (T21.setTop (mkF m 107 #[.val (.ref so), .val (.int (1 : Int32))] [(.ref so), (.ref b21), (.ref b21)])) t ∧ _
  have F22 : Old Z n0 h21 := (F8.ext E21)
  have ge23 : n0 ≤ b21 := by omega
  have zl24 : n0 ≤ h21.size := by omega
  obtain ⟨_, _, ⟨T25, L25, k25, n25⟩, -, X25, ⟨Lc25, hQ25, l25, y25, z25⟩, st25⟩ := X21.specialBack hx (y := (⟨"com/example/libtardy/libtardy/QueueName", "<init>", "(Ljava/lang/String;)V"⟩ : MethodName)) rfl hown (mvT hZ (hw _ (List.mem_of_getElem? (i := 88) rfl))) (mvT hZ (hw _ (List.mem_of_getElem? (i := 89) rfl))) (mvT hZ (hw _ (List.mem_of_getElem? (i := 90) rfl))) (by decide) (backOf (W := 1) (rmInit l Z a0 hw [] b21 so h21 n0 zl24 A21 F_name_b21 F22 ge23) hZ (hw _ (List.mem_of_getElem? (i := 90) rfl)) (hw _ (List.mem_of_getElem? (i := 37) rfl)) (by decide) (by decide)) (g := (mkF m 107 #[.val (.ref so), .val (.int (1 : Int32))] [(.ref so), (.ref b21), (.ref b21)])) rfl (by rw [hml]; rfl) (Steps.refl _) (a := b21) (argsL := [(.ref so)]) (rest := [(.ref b21)]) (lenOf pd__28Ljava_2flang_2fString_3b_29V rfl) rfl (by show 2 * 0 + _ ≤ _; exact Nat.le_of_eq rfl) (hb hby d8_107) (fun _ _ => ⟨rfl, e21, (by decide : 3 + 0 ≤ _), (by decide : 21 + 0 ≤ _)⟩)
  dsimp only [Pt.U, Pt.locs, Pt.cells, Pt.slots] at X25 l25 y25 z25 st25 hQ25
  subst l25 y25 z25
  obtain ⟨rfl, Nq25, Kp25, G25_0, G25_1⟩ := hQ25
  have N25 := Fr.app N20 Nq25
  refine own_goT st25 ?_
  have le_25 : h21.size ≤ T25.heap.size := Kp25.1
  have sz26 : h0.size ≤ b21 := by omega
  have K25 : Keep h0 T25.heap [] := Keep.trans K21 Kp25 (allS (Or.inr sz26) all0)
  show ∃ t o, Steps p.tables e below (T25.setTop (mkF m 110 #[.val (.ref so), .val (.int (1 : Int32))] [(.ref b21)])) t ∧ _
  obtain ⟨fs, hr, hrun, hended, hW⟩ := Jvm.Stand.leaveW X25 hS (by omega) (v := some (.ref b21)) (fun h => by rw [Bd.returns] at h; cases h)
  refine ⟨_, _, ?_, hrun, hended, _, _, rfl, ?_, ⟨hW.1, hW.2.1, hW.2.2.1, hW.2.2.2.mono (by decide) (by decide)⟩⟩
  · jvm_step X25.here [X25.here.top, hx, (hb hby d8_110), X25.method', Bd.returns, Value.isRef, FieldType.isReference]
    first | (intro acts; rw [hr _ acts rfl rfl rfl]) | rw [hr _ _ rfl rfl rfl]
    exact Steps.refl _
  · show Q_rmOf1 Z _ _ _ _ _ _ h0 n0 _ T25.heap _
    exact ⟨b21, rfl, N25, K25, G25_0, G25_1⟩
theorem ef_rmLen2 (m : MethodId) (x0 : Nat) : entryFrame m #[(.ref x0)] 1 = mkF m 0 #[.val (.ref x0)] [] := by first | (simp [entryFrame, mkF, argsToLocals, Value.category]; done) | rfl
def Q_rmLen2 (Z : State) (so : Nat) (tb : Nat) (kb : ClassId) (c0 : Int32) (c1 : Int32) (zc : Int32) (h0 : Heap) (n0 : Nat) (v : Option Value) (h : Heap) (L : List Loc) : Prop := v = some (.int (2 : Int32)) ∧ Fr n0 L ∧ h = h0
set_option maxRecDepth 65536 in
set_option maxHeartbeats 40000000 in
theorem rmLen2 (l : Launch) (Z : State) (a0 : Array Value) (hw : ∀ d ∈ tables_1, d.before a0 Z = true) (ws : List Jvm.Cond) (so : Nat) (tb : Nat) (kb : ClassId) (c0 : Int32) (c1 : Int32) (zc : Int32) (h0 : Heap) (n0 : Nat) (Z0 : n0 ≤ h0.size) (P1 : Exa Z h0 so "java/lang/String") (P2 : Fld Z h0 so "java/lang/String" "value" "[B" (.ref tb)) (P3 : Fld Z h0 so "java/lang/String" "coder" "B" (.int (0 : Int32))) (P4 : Arv Z h0 tb kb .byte (2 : Int32) [(.int (c0.toInt8.toInt32)), (.int (c1.toInt8.toInt32))] (.int (0 : Int32))) (OLD : Old Z n0 h0) (P5 : Sta Z Z.heap "java/lang/String" "COMPACT_STRINGS" "Z" (.int zc)) (hzc : ¬ (zc = (0 : Int32))) :
    MetFree l (⟨"java/lang/String", "length", "()I"⟩ : MethodName) (head1 (Jvm.Cond.code (⟨"java/lang/String", "length", "()I"⟩ : MethodName) jdk_42_method_54_code 1 (some .int) :: ws) ({ frames := 1, cells := 0, slots := 0, locals := 13 } : Room)) (fun a U => a = #[(.ref so)] ∧ Z.Warmed39 U.vm ∧ U.heap = h0) (fun _ _ _ _ _ => True) (fun _ U o U' => ∃ v L, o = .returned v ∧ Q_rmLen2 Z so tb kb c0 c1 zc h0 n0 v U'.heap L ∧ FrameEnd U o U' L ({ frames := 1, cells := 0, slots := 0, locals := 13 } : Room).cells ({ frames := 1, cells := 0, slots := 0, locals := 13 } : Room).slots) := by
  refine MetFree.of_bodySF (plainFor_of_name pn_java_lang_String) hisR ?_
  intro p e s m args below meth c s₁ Bd hml0 hP hK
  obtain ⟨rfl, hZ, hh⟩ := hP
  have hx := Bd.exec
  have hby := Bd.bytes
  have hml : c.maxLocals = 1 := hml0
  have hown : s.vm.findClass "java/lang/String" = some m.cls := findClass_of_methodNamed Bd.named
  have hnm := (name_of_methodNamed Bd.named Bd.method).1
  have X0 : Stand p l e ({ frames := 1, cells := 0, slots := 0, locals := 13 } : Room) s m #[(.ref so)] below meth c s₁ [] 0 0 := Stand.of_body Bd
  have e0 : s₁.heap = h0 := by rw [← hh, Bd.state]; rfl
  have N0 := Fr.nil n0
  have pre0 : ∀ t, Steps p.tables e below (s₁.setTop (mkF m 0 #[.val (.ref so)] [])) t → Steps p.tables e below (s₁.setTop (entryFrame m #[(.ref so)] 1)) t := fun t k => castTop (ef_rmLen2 m so) k
  have oz := OLD.1
  have lt_so : so < h0.size := P1.lt
  have lt_tb : tb < h0.size := P4.lt
  refine own_go (B := s₁.setTop (mkF m 0 #[.val (.ref so)] [])) pre0 ?_
  show ∃ t o, Steps p.tables e below (s₁.setTop (mkF m 0 #[.val (.ref so)] [])) t ∧ _
  refine own_go (fun _ => XS.aloadN X0.here hx rfl (hb hby d11_0) rfl rfl) ?_
  obtain ⟨T6, X6, e6, st6⟩ := getF X0 hx hZ hown (host := "") (Or.inl (hw _ (List.mem_of_getElem? (i := 33) rfl))) Via.refl e0 P2 (g := (mkF m 1 #[.val (.ref so)] [(.ref so)])) rfl rfl (hb hby d11_1)
  refine own_go st6 ?_
  obtain ⟨cl7, Ar7, q7, S7, N7, H7, G7⟩ := id P4
  have ln7 : cl7.slots.size.toInt32 = (2 : Int32) := len_of S7 N7
  have al7 := X6.arraylength hx (by rw [e6]; exact Ar7.1) (State.isArrayOf_alike hZ.alike Ar7.2.1) (g := (mkF m 4 #[.val (.ref so)] [(.ref tb)])) rfl rfl (hb hby d11_4)
  rw [ln7] at al7
  refine own_go al7 ?_
  show ∃ t o, Steps p.tables e below (T6.setTop (mkF m 5 #[.val (.ref so)] [(.int (2 : Int32))])) t ∧ _
  refine own_go (fun _ => XS.aloadN X6.here hx rfl (hb hby d11_5) rfl rfl) ?_
  show ∃ t o, Steps p.tables e below (T6.setTop (mkF m 6 #[.val (.ref so)] [(.ref so), (.int (2 : Int32))])) t ∧ _
  obtain ⟨cq8, kq8, q8a, q8b, q8c⟩ := isOf hZ e6 P1
  obtain ⟨_, _, ⟨T8, L8, k8, n8⟩, -, X8, ⟨Lc8, hQ8, l8, y8, z8⟩, st8⟩ := X6.virtualBack hx (y := (⟨"java/lang/String", "coder", "()B"⟩ : MethodName)) (z := (⟨"java/lang/String", "coder", "()B"⟩ : MethodName)) hown (mvT hZ (hw _ (List.mem_of_getElem? (i := 56) rfl))) (mvT hZ (hw _ (List.mem_of_getElem? (i := 57) rfl))) (notFace_of_selects (args := #[]) (mvT hZ (hw _ (List.mem_of_getElem? (i := 59) rfl)))) (mvT hZ (hw _ (List.mem_of_getElem? (i := 59) rfl))) (mvT hZ (hw _ (List.mem_of_getElem? (i := 58) rfl))) (by decide) (backOf (W := 1) (rmCoder l Z a0 hw [] so zc h0 n0 Z0 P3 OLD P5 hzc) hZ (hw _ (List.mem_of_getElem? (i := 60) rfl)) (hw _ (List.mem_of_getElem? (i := 7) rfl)) (by decide) (by decide)) q8a q8c (g := (mkF m 6 #[.val (.ref so)] [(.ref so), (.int (2 : Int32))])) rfl (by rw [hml]; rfl) (Steps.refl _) (argsL := []) (rest := [(.int (2 : Int32))]) (lenOf pd__28_29B rfl) rfl (by show 2 * 0 + _ ≤ _; exact Nat.le_of_eq rfl) (hb hby d11_6) (fun _ _ => ⟨rfl, e6, (by decide : 0 + 0 ≤ _), (by decide : 0 + 0 ≤ _)⟩)
  dsimp only [Pt.U, Pt.locs, Pt.cells, Pt.slots] at X8 l8 y8 z8 st8 hQ8
  subst l8 y8 z8
  obtain ⟨rfl, Nq8, e8⟩ := hQ8
  have N8 := Fr.app N0 Nq8
  refine own_goT st8 ?_
  refine own_go (fun _ => XS.ishr X8.here hx rfl (hb hby d11_9) rfl) ?_
  show ∃ t o, Steps p.tables e below (T8.setTop (mkF m 10 #[.val (.ref so)] [(.int (2 : Int32))])) t ∧ _
  obtain ⟨fs, hr, hrun, hended, hW, hsame⟩ := X8.leave (v := some (.int (2 : Int32))) (fun h => by rw [Bd.returns] at h; cases h)
  refine ⟨_, _, ?_, hrun, hended, _, _, rfl, ?_, ⟨_, rfl⟩, hW, hsame.mono (by decide) (by decide)⟩
  · exact retI X8 hx Bd.returns (hb hby d11_10) hr
  · show Q_rmLen2 Z _ _ _ _ _ _ h0 n0 _ T8.heap _
    rw [e8]
    exact ⟨rfl, N8, rfl⟩
theorem ef_rmEmp2 (m : MethodId) (x0 : Nat) : entryFrame m #[(.ref x0)] 1 = mkF m 0 #[.val (.ref x0)] [] := by first | (simp [entryFrame, mkF, argsToLocals, Value.category]; done) | rfl
def Q_rmEmp2 (Z : State) (so : Nat) (tb : Nat) (kb : ClassId) (c0 : Int32) (c1 : Int32) (h0 : Heap) (n0 : Nat) (v : Option Value) (h : Heap) (L : List Loc) : Prop := v = some (.int (0 : Int32)) ∧ Fr n0 L ∧ h = h0
set_option maxRecDepth 65536 in
set_option maxHeartbeats 40000000 in
theorem rmEmp2 (l : Launch) (Z : State) (a0 : Array Value) (hw : ∀ d ∈ tables_1, d.before a0 Z = true) (ws : List Jvm.Cond) (so : Nat) (tb : Nat) (kb : ClassId) (c0 : Int32) (c1 : Int32) (h0 : Heap) (n0 : Nat) (Z0 : n0 ≤ h0.size) (P1 : Exa Z h0 so "java/lang/String") (P2 : Fld Z h0 so "java/lang/String" "value" "[B" (.ref tb)) (P3 : Fld Z h0 so "java/lang/String" "coder" "B" (.int (0 : Int32))) (P4 : Arv Z h0 tb kb .byte (2 : Int32) [(.int (c0.toInt8.toInt32)), (.int (c1.toInt8.toInt32))] (.int (0 : Int32))) (OLD : Old Z n0 h0) :
    MetFree l (⟨"java/lang/String", "isEmpty", "()Z"⟩ : MethodName) (head1 (Jvm.Cond.code (⟨"java/lang/String", "isEmpty", "()Z"⟩ : MethodName) jdk_42_method_55_code 1 (some .boolean) :: ws) ({ frames := 0, cells := 0, slots := 0, locals := 0 } : Room)) (fun a U => a = #[(.ref so)] ∧ Z.Warmed39 U.vm ∧ U.heap = h0) (fun _ _ _ _ _ => True) (fun _ U o U' => ∃ v L, o = .returned v ∧ Q_rmEmp2 Z so tb kb c0 c1 h0 n0 v U'.heap L ∧ FrameEnd U o U' L ({ frames := 0, cells := 0, slots := 0, locals := 0 } : Room).cells ({ frames := 0, cells := 0, slots := 0, locals := 0 } : Room).slots) := by
  refine MetFree.of_bodySF (plainFor_of_name pn_java_lang_String) hisR ?_
  intro p e s m args below meth c s₁ Bd hml0 hP hK
  obtain ⟨rfl, hZ, hh⟩ := hP
  have hx := Bd.exec
  have hby := Bd.bytes
  have hml : c.maxLocals = 1 := hml0
  have hown : s.vm.findClass "java/lang/String" = some m.cls := findClass_of_methodNamed Bd.named
  have hnm := (name_of_methodNamed Bd.named Bd.method).1
  have X0 : Stand p l e ({ frames := 0, cells := 0, slots := 0, locals := 0 } : Room) s m #[(.ref so)] below meth c s₁ [] 0 0 := Stand.of_body Bd
  have e0 : s₁.heap = h0 := by rw [← hh, Bd.state]; rfl
  have N0 := Fr.nil n0
  have pre0 : ∀ t, Steps p.tables e below (s₁.setTop (mkF m 0 #[.val (.ref so)] [])) t → Steps p.tables e below (s₁.setTop (entryFrame m #[(.ref so)] 1)) t := fun t k => castTop (ef_rmEmp2 m so) k
  have oz := OLD.1
  have lt_so : so < h0.size := P1.lt
  have lt_tb : tb < h0.size := P4.lt
  refine own_go (B := s₁.setTop (mkF m 0 #[.val (.ref so)] [])) pre0 ?_
  show ∃ t o, Steps p.tables e below (s₁.setTop (mkF m 0 #[.val (.ref so)] [])) t ∧ _
  refine own_go (fun _ => XS.aloadN X0.here hx rfl (hb hby d10_0) rfl rfl) ?_
  obtain ⟨T5, X5, e5, st5⟩ := getF X0 hx hZ hown (host := "") (Or.inl (hw _ (List.mem_of_getElem? (i := 33) rfl))) Via.refl e0 P2 (g := (mkF m 1 #[.val (.ref so)] [(.ref so)])) rfl rfl (hb hby d10_1)
  refine own_go st5 ?_
  obtain ⟨cl6, Ar6, q6, S6, N6, H6, G6⟩ := id P4
  have ln6 : cl6.slots.size.toInt32 = (2 : Int32) := len_of S6 N6
  have al6 := X5.arraylength hx (by rw [e5]; exact Ar6.1) (State.isArrayOf_alike hZ.alike Ar6.2.1) (g := (mkF m 4 #[.val (.ref so)] [(.ref tb)])) rfl rfl (hb hby d10_4)
  rw [ln6] at al6
  refine own_go al6 ?_
  show ∃ t o, Steps p.tables e below (T5.setTop (mkF m 5 #[.val (.ref so)] [(.int (2 : Int32))])) t ∧ _
  refine own_go (fun _ => XS.ifYes X5.here hx rfl (pc0 := 5) (pc' := 12) rfl (hb hby d10_5) rfl ((if0 _ _).trans (feq (by decide : ¬ ((2 : Int32) = (0 : Int32)))).2) (by decide) (by decide)) ?_
  refine own_go (fun _ => XS.iconst X5.here hx rfl (hb hby d10_12)) ?_
  show ∃ t o, Steps p.tables e below (T5.setTop (mkF m 13 #[.val (.ref so)] [(.int (0 : Int32))])) t ∧ _
  obtain ⟨fs, hr, hrun, hended, hW, hsame⟩ := X5.leave (v := some (.int (0 : Int32))) (fun h => by rw [Bd.returns] at h; cases h)
  refine ⟨_, _, ?_, hrun, hended, _, _, rfl, ?_, ⟨_, rfl⟩, hW, hsame.mono (by decide) (by decide)⟩
  · exact retN X5 hx (t := .boolean) Bd.returns (by simp) (hb hby d10_13) hr
  · show Q_rmEmp2 Z _ _ _ _ _ h0 n0 _ T5.heap _
    rw [e5]
    exact ⟨rfl, N0, rfl⟩
theorem ef_rmLch2_0 (m : MethodId) (x0 : Nat) (x1 : Int32) : entryFrame m #[(.ref x0), (.int x1)] 2 = mkF m 0 #[.val (.ref x0), .val (.int x1)] [] := by first | (simp [entryFrame, mkF, argsToLocals, Value.category]; done) | rfl
def Q_rmLch2_0 (Z : State) (tb : Nat) (kb : ClassId) (c0 : Int32) (c1 : Int32) (gv : Value) (h0 : Heap) (n0 : Nat) (v : Option Value) (h : Heap) (L : List Loc) : Prop := v = some (.int c0) ∧ Fr n0 L ∧ h = h0
set_option maxRecDepth 65536 in
set_option maxHeartbeats 40000000 in
theorem rmLch2_0 (l : Launch) (Z : State) (a0 : Array Value) (hw : ∀ d ∈ tables_1, d.before a0 Z = true) (ws : List Jvm.Cond) (tb : Nat) (kb : ClassId) (c0 : Int32) (c1 : Int32) (gv : Value) (h0 : Heap) (n0 : Nat) (Z0 : n0 ≤ h0.size) (P1 : Arv Z h0 tb kb .byte (2 : Int32) [(.int (c0.toInt8.toInt32)), (.int (c1.toInt8.toInt32))] (.int (0 : Int32))) (OLD : Old Z n0 h0) (P2 : Sta Z Z.heap "jdk/internal/util/Preconditions" "SIOOBE_FORMATTER" "Ljava/util/function/BiFunction;" gv) (hrg : own_rg c0) (hgv : gv.isRef = true) :
    MetFree l (⟨"java/lang/StringLatin1", "charAt", "([BI)C"⟩ : MethodName) (head1 (Jvm.Cond.code (⟨"java/lang/StringLatin1", "charAt", "([BI)C"⟩ : MethodName) jdk_43_method_2_code 2 (some .char) :: ws) ({ frames := 2, cells := 0, slots := 0, locals := 27 } : Room)) (fun a U => a = #[(.ref tb), (.int (0 : Int32))] ∧ Z.Warmed39 U.vm ∧ U.heap = h0) (fun _ _ _ _ _ => True) (fun _ U o U' => ∃ v L, o = .returned v ∧ Q_rmLch2_0 Z tb kb c0 c1 gv h0 n0 v U'.heap L ∧ FrameEnd U o U' L ({ frames := 2, cells := 0, slots := 0, locals := 27 } : Room).cells ({ frames := 2, cells := 0, slots := 0, locals := 27 } : Room).slots) := by
  refine MetFree.of_bodySF (plainFor_of_name pn_java_lang_StringLatin1) hisR ?_
  intro p e s m args below meth c s₁ Bd hml0 hP hK
  obtain ⟨rfl, hZ, hh⟩ := hP
  have hx := Bd.exec
  have hby := Bd.bytes
  have hml : c.maxLocals = 2 := hml0
  have hown : s.vm.findClass "java/lang/StringLatin1" = some m.cls := findClass_of_methodNamed Bd.named
  have hnm := (name_of_methodNamed Bd.named Bd.method).1
  have X0 : Stand p l e ({ frames := 2, cells := 0, slots := 0, locals := 27 } : Room) s m #[(.ref tb), (.int (0 : Int32))] below meth c s₁ [] 0 0 := Stand.of_body Bd
  have e0 : s₁.heap = h0 := by rw [← hh, Bd.state]; rfl
  have N0 := Fr.nil n0
  have pre0 : ∀ t, Steps p.tables e below (s₁.setTop (mkF m 0 #[.val (.ref tb), .val (.int (0 : Int32))] [])) t → Steps p.tables e below (s₁.setTop (entryFrame m #[(.ref tb), (.int (0 : Int32))] 2)) t := fun t k => castTop (ef_rmLch2_0 m tb (0 : Int32)) k
  have oz := OLD.1
  have lt_tb : tb < h0.size := P1.lt
  refine own_go (B := s₁.setTop (mkF m 0 #[.val (.ref tb), .val (.int (0 : Int32))] [])) pre0 ?_
  show ∃ t o, Steps p.tables e below (s₁.setTop (mkF m 0 #[.val (.ref tb), .val (.int (0 : Int32))] [])) t ∧ _
  refine own_go (fun _ => XS.iloadN X0.here hx rfl (hb hby d15_0) rfl) ?_
  refine own_go (fun _ => XS.aloadN X0.here hx rfl (hb hby d15_1) rfl rfl) ?_
  obtain ⟨cl3, Ar3, q3, S3, N3, H3, G3⟩ := id P1
  have ln3 : cl3.slots.size.toInt32 = (2 : Int32) := len_of S3 N3
  have al3 := X0.arraylength hx (by rw [e0]; exact Ar3.1) (State.isArrayOf_alike hZ.alike Ar3.2.1) (g := (mkF m 2 #[.val (.ref tb), .val (.int (0 : Int32))] [(.ref tb), (.int (0 : Int32))])) rfl rfl (hb hby d15_2)
  rw [ln3] at al3
  refine own_go al3 ?_
  show ∃ t o, Steps p.tables e below (s₁.setTop (mkF m 3 #[.val (.ref tb), .val (.int (0 : Int32))] [(.int (2 : Int32)), (.int (0 : Int32))])) t ∧ _
  obtain ⟨_, _, ⟨T4, L4, k4, n4⟩, -, X4, ⟨Lc4, hQ4, l4, y4, z4⟩, st4⟩ := Jvm.LawKit.callS X0 hx (y := (⟨"java/lang/String", "checkIndex", "(II)V"⟩ : MethodName)) hown (mvT hZ (hw _ (List.mem_of_getElem? (i := 75) rfl))) (mvT hZ (hw _ (List.mem_of_getElem? (i := 76) rfl))) (mvT hZ (hw _ (List.mem_of_getElem? (i := 7) rfl))) (mvT hZ (hw _ (List.mem_of_getElem? (i := 77) rfl))) (by decide) (backOf (W := 0) (rmCi l Z a0 hw [] (0 : Int32) (2 : Int32) gv h0 n0 Z0 OLD P2 hgv (by decide) (by decide)) hZ (hw _ (List.mem_of_getElem? (i := 77) rfl)) (hw _ (List.mem_of_getElem? (i := 7) rfl)) (by decide) (by decide)) (g := (mkF m 3 #[.val (.ref tb), .val (.int (0 : Int32))] [(.int (2 : Int32)), (.int (0 : Int32))])) rfl (by rw [hml]; rfl) (argsL := [(.int (0 : Int32)), (.int (2 : Int32))]) (rest := []) (lenOf pd__28II_29V rfl) rfl (by show 2 * 0 + _ ≤ _; exact Nat.le_of_eq rfl) (hb hby d15_3) (fun _ _ => ⟨rfl, e0, (by decide : 0 + 0 ≤ _), (by decide : 0 + 0 ≤ _)⟩)
  dsimp only [Pt.U, Pt.locs, Pt.cells, Pt.slots] at X4 l4 y4 z4 st4 hQ4
  subst l4 y4 z4
  obtain ⟨rfl, Nq4, e4⟩ := hQ4
  have N4 := Fr.app N0 Nq4
  refine own_go st4 ?_
  refine own_go (fun _ => XS.aloadN X4.here hx rfl (hb hby d15_6) rfl rfl) ?_
  refine own_go (fun _ => XS.iloadN X4.here hx rfl (hb hby d15_7) rfl) ?_
  show ∃ t o, Steps p.tables e below (T4.setTop (mkF m 8 #[.val (.ref tb), .val (.int (0 : Int32))] [(.int (0 : Int32)), (.ref tb)])) t ∧ _
  obtain ⟨cl5, Ar5, q5, S5, N5, H5, G5⟩ := id P1
  have hin5 : ¬ ((0 : Int32) < 0 ∨ cl5.slots.size ≤ ((0 : Int32)).toNatClampNeg) := inb_of S5 ⟨by decide, by decide⟩
  have hat5 : cl5.slots[((0 : Int32)).toNatClampNeg]? = some (.int (c0.toInt8.toInt32)) := Has.at H5 hin5 rfl
  refine own_go (fun _ => X4.baloadBytes hx (j := (0 : Int32)) (v := (.int (c0.toInt8.toInt32))) (by rw [e4]; exact Ar5.1) (State.isArrayOf_alike hZ.alike Ar5.2.1) Ar5.2.2 hin5 hat5 (g := (mkF m 8 #[.val (.ref tb), .val (.int (0 : Int32))] [(.int (0 : Int32)), (.ref tb)])) rfl rfl (hb hby d15_8) _) ?_
  refine own_go (fun _ => XS.sipush X4.here hx rfl (hb hby d15_9)) ?_
  refine own_go (fun _ => XS.iand X4.here hx rfl (hb hby d15_12) rfl) ?_
  show ∃ t o, Steps p.tables e below (T4.setTop (mkF m 13 #[.val (.ref tb), .val (.int (0 : Int32))] [(.int ((c0.toInt8.toInt32) &&& (255 : Int32)))])) t ∧ _
  refine own_go (fun _ => XS.i2c X4.here hx rfl (hb hby d15_13) rfl) ?_
  show ∃ t o, Steps p.tables e below (T4.setTop (mkF m 14 #[.val (.ref tb), .val (.int (0 : Int32))] [(.int (((c0.toInt8.toInt32) &&& (255 : Int32)).toUInt32.toUInt16.toUInt32.toInt32))])) t ∧ _
  obtain ⟨fs, hr, hrun, hended, hW, hsame⟩ := X4.leave (v := some (.int (nar .char (((c0.toInt8.toInt32) &&& (255 : Int32)).toUInt32.toUInt16.toUInt32.toInt32)))) (fun h => by rw [Bd.returns] at h; cases h)
  refine ⟨_, _, ?_, hrun, hended, _, _, rfl, ?_, ⟨_, rfl⟩, hW, hsame.mono (by decide) (by decide)⟩
  · exact retN X4 hx (t := .char) Bd.returns (by simp) (hb hby d15_14) hr
  · show Q_rmLch2_0 Z _ _ _ _ _ h0 n0 _ T4.heap _
    rw [e4]
    exact ⟨(congrArg (fun z => some (Value.int z)) (own_back hrg)), N4, rfl⟩
theorem ef_rmCh2_0 (m : MethodId) (x0 : Nat) (x1 : Int32) : entryFrame m #[(.ref x0), (.int x1)] 2 = mkF m 0 #[.val (.ref x0), .val (.int x1)] [] := by first | (simp [entryFrame, mkF, argsToLocals, Value.category]; done) | rfl
def Q_rmCh2_0 (Z : State) (so : Nat) (tb : Nat) (kb : ClassId) (c0 : Int32) (c1 : Int32) (zc : Int32) (gv : Value) (h0 : Heap) (n0 : Nat) (v : Option Value) (h : Heap) (L : List Loc) : Prop := v = some (.int c0) ∧ Fr n0 L ∧ h = h0
set_option maxRecDepth 65536 in
set_option maxHeartbeats 40000000 in
theorem rmCh2_0 (l : Launch) (Z : State) (a0 : Array Value) (hw : ∀ d ∈ tables_1, d.before a0 Z = true) (ws : List Jvm.Cond) (so : Nat) (tb : Nat) (kb : ClassId) (c0 : Int32) (c1 : Int32) (zc : Int32) (gv : Value) (h0 : Heap) (n0 : Nat) (Z0 : n0 ≤ h0.size) (P1 : Exa Z h0 so "java/lang/String") (P2 : Fld Z h0 so "java/lang/String" "value" "[B" (.ref tb)) (P3 : Fld Z h0 so "java/lang/String" "coder" "B" (.int (0 : Int32))) (P4 : Arv Z h0 tb kb .byte (2 : Int32) [(.int (c0.toInt8.toInt32)), (.int (c1.toInt8.toInt32))] (.int (0 : Int32))) (OLD : Old Z n0 h0) (P5 : Sta Z Z.heap "java/lang/String" "COMPACT_STRINGS" "Z" (.int zc)) (P6 : Sta Z Z.heap "jdk/internal/util/Preconditions" "SIOOBE_FORMATTER" "Ljava/util/function/BiFunction;" gv) (hzc : ¬ (zc = (0 : Int32))) (hgv : gv.isRef = true) (hrg : own_rg c0) :
    MetFree l (⟨"java/lang/String", "charAt", "(I)C"⟩ : MethodName) (head1 (Jvm.Cond.code (⟨"java/lang/String", "charAt", "(I)C"⟩ : MethodName) jdk_42_method_56_code 2 (some .char) :: ws) ({ frames := 3, cells := 0, slots := 0, locals := 40 } : Room)) (fun a U => a = #[(.ref so), (.int (0 : Int32))] ∧ Z.Warmed39 U.vm ∧ U.heap = h0) (fun _ _ _ _ _ => True) (fun _ U o U' => ∃ v L, o = .returned v ∧ Q_rmCh2_0 Z so tb kb c0 c1 zc gv h0 n0 v U'.heap L ∧ FrameEnd U o U' L ({ frames := 3, cells := 0, slots := 0, locals := 40 } : Room).cells ({ frames := 3, cells := 0, slots := 0, locals := 40 } : Room).slots) := by
  refine MetFree.of_bodySF (plainFor_of_name pn_java_lang_String) hisR ?_
  intro p e s m args below meth c s₁ Bd hml0 hP hK
  obtain ⟨rfl, hZ, hh⟩ := hP
  have hx := Bd.exec
  have hby := Bd.bytes
  have hml : c.maxLocals = 2 := hml0
  have hown : s.vm.findClass "java/lang/String" = some m.cls := findClass_of_methodNamed Bd.named
  have hnm := (name_of_methodNamed Bd.named Bd.method).1
  have X0 : Stand p l e ({ frames := 3, cells := 0, slots := 0, locals := 40 } : Room) s m #[(.ref so), (.int (0 : Int32))] below meth c s₁ [] 0 0 := Stand.of_body Bd
  have e0 : s₁.heap = h0 := by rw [← hh, Bd.state]; rfl
  have N0 := Fr.nil n0
  have pre0 : ∀ t, Steps p.tables e below (s₁.setTop (mkF m 0 #[.val (.ref so), .val (.int (0 : Int32))] [])) t → Steps p.tables e below (s₁.setTop (entryFrame m #[(.ref so), (.int (0 : Int32))] 2)) t := fun t k => castTop (ef_rmCh2_0 m so (0 : Int32)) k
  have oz := OLD.1
  have lt_so : so < h0.size := P1.lt
  have lt_tb : tb < h0.size := P4.lt
  refine own_go (B := s₁.setTop (mkF m 0 #[.val (.ref so), .val (.int (0 : Int32))] [])) pre0 ?_
  show ∃ t o, Steps p.tables e below (s₁.setTop (mkF m 0 #[.val (.ref so), .val (.int (0 : Int32))] [])) t ∧ _
  refine own_go (fun _ => XS.aloadN X0.here hx rfl (hb hby d13_0) rfl rfl) ?_
  show ∃ t o, Steps p.tables e below (s₁.setTop (mkF m 1 #[.val (.ref so), .val (.int (0 : Int32))] [(.ref so)])) t ∧ _
  obtain ⟨cq7, kq7, q7a, q7b, q7c⟩ := isOf hZ e0 P1
  obtain ⟨_, _, ⟨T7, L7, k7, n7⟩, -, X7, ⟨Lc7, hQ7, l7, y7, z7⟩, st7⟩ := X0.virtualBack hx (y := (⟨"java/lang/String", "isLatin1", "()Z"⟩ : MethodName)) (z := (⟨"java/lang/String", "isLatin1", "()Z"⟩ : MethodName)) hown (mvT hZ (hw _ (List.mem_of_getElem? (i := 66) rfl))) (mvT hZ (hw _ (List.mem_of_getElem? (i := 67) rfl))) (notFace_of_selects (args := #[]) (mvT hZ (hw _ (List.mem_of_getElem? (i := 69) rfl)))) (mvT hZ (hw _ (List.mem_of_getElem? (i := 69) rfl))) (mvT hZ (hw _ (List.mem_of_getElem? (i := 68) rfl))) (by decide) (backOf (W := 0) (rmLat l Z a0 hw [] so zc h0 n0 Z0 P3 OLD P5 hzc) hZ (hw _ (List.mem_of_getElem? (i := 70) rfl)) (hw _ (List.mem_of_getElem? (i := 7) rfl)) (by decide) (by decide)) q7a q7c (g := (mkF m 1 #[.val (.ref so), .val (.int (0 : Int32))] [(.ref so)])) rfl (by rw [hml]; rfl) (Steps.refl _) (argsL := []) (rest := []) (lenOf pd__28_29Z rfl) rfl (by show 2 * 0 + _ ≤ _; exact Nat.le_of_eq rfl) (hb hby d13_1) (fun _ _ => ⟨rfl, e0, (by decide : 0 + 0 ≤ _), (by decide : 0 + 0 ≤ _)⟩)
  dsimp only [Pt.U, Pt.locs, Pt.cells, Pt.slots] at X7 l7 y7 z7 st7 hQ7
  subst l7 y7 z7
  obtain ⟨rfl, Nq7, e7⟩ := hQ7
  have N7 := Fr.app N0 Nq7
  refine own_goT st7 ?_
  show ∃ t o, Steps p.tables e below (T7.setTop (mkF m 4 #[.val (.ref so), .val (.int (0 : Int32))] [(.int (1 : Int32))])) t ∧ _
  refine own_go (fun _ => XS.ifNo X7.here hx rfl (hb hby d13_4) rfl ((if0 _ _).trans (feq (by decide : ¬ ((1 : Int32) = (0 : Int32)))).1)) ?_
  refine own_go (fun _ => XS.aloadN X7.here hx rfl (hb hby d13_7) rfl rfl) ?_
  obtain ⟨T8, X8, e8, st8⟩ := getF X7 hx hZ hown (host := "") (Or.inl (hw _ (List.mem_of_getElem? (i := 33) rfl))) Via.refl e7 P2 (g := (mkF m 8 #[.val (.ref so), .val (.int (0 : Int32))] [(.ref so)])) rfl rfl (hb hby d13_8)
  refine own_go st8 ?_
  show ∃ t o, Steps p.tables e below (T8.setTop (mkF m 11 #[.val (.ref so), .val (.int (0 : Int32))] [(.ref tb)])) t ∧ _
  refine own_go (fun _ => XS.iloadN X8.here hx rfl (hb hby d13_11) rfl) ?_
  show ∃ t o, Steps p.tables e below (T8.setTop (mkF m 12 #[.val (.ref so), .val (.int (0 : Int32))] [(.int (0 : Int32)), (.ref tb)])) t ∧ _
  obtain ⟨_, _, ⟨T9, L9, k9, n9⟩, -, X9, ⟨Lc9, hQ9, l9, y9, z9⟩, st9⟩ := Jvm.LawKit.callS X8 hx (y := (⟨"java/lang/StringLatin1", "charAt", "([BI)C"⟩ : MethodName)) hown (mvT hZ (hw _ (List.mem_of_getElem? (i := 71) rfl))) (mvT hZ (hw _ (List.mem_of_getElem? (i := 72) rfl))) (mvT hZ (hw _ (List.mem_of_getElem? (i := 73) rfl))) (mvT hZ (hw _ (List.mem_of_getElem? (i := 74) rfl))) (by decide) (backOf (W := 0) (rmLch2_0 l Z a0 hw [] tb kb c0 c1 gv h0 n0 Z0 P4 OLD P6 hrg hgv) hZ (hw _ (List.mem_of_getElem? (i := 74) rfl)) (hw _ (List.mem_of_getElem? (i := 73) rfl)) (by decide) (by decide)) (g := (mkF m 12 #[.val (.ref so), .val (.int (0 : Int32))] [(.int (0 : Int32)), (.ref tb)])) rfl (by rw [hml]; rfl) (argsL := [(.ref tb), (.int (0 : Int32))]) (rest := []) (lenOf pd__28_5bBI_29C rfl) rfl (by show 2 * 0 + _ ≤ _; exact Nat.le_of_eq rfl) (hb hby d13_12) (fun _ _ => ⟨rfl, e8, (by decide : 0 + 0 ≤ _), (by decide : 0 + 0 ≤ _)⟩)
  dsimp only [Pt.U, Pt.locs, Pt.cells, Pt.slots] at X9 l9 y9 z9 st9 hQ9
  subst l9 y9 z9
  obtain ⟨rfl, Nq9, e9⟩ := hQ9
  have N9 := Fr.app N7 Nq9
  refine own_go st9 ?_
  show ∃ t o, Steps p.tables e below (T9.setTop (mkF m 15 #[.val (.ref so), .val (.int (0 : Int32))] [(.int c0)])) t ∧ _
  obtain ⟨fs, hr, hrun, hended, hW, hsame⟩ := X9.leave (v := some (.int (nar .char c0))) (fun h => by rw [Bd.returns] at h; cases h)
  refine ⟨_, _, ?_, hrun, hended, _, _, rfl, ?_, ⟨_, rfl⟩, hW, hsame.mono (by decide) (by decide)⟩
  · exact retN X9 hx (t := .char) Bd.returns (by simp) (hb hby d13_15) hr
  · show Q_rmCh2_0 Z _ _ _ _ _ _ _ h0 n0 _ T9.heap _
    rw [e9]
    exact ⟨(congrArg (fun z => some (Value.int z)) (own_narc hrg)), N9, rfl⟩
theorem ef_rmLch2_1 (m : MethodId) (x0 : Nat) (x1 : Int32) : entryFrame m #[(.ref x0), (.int x1)] 2 = mkF m 0 #[.val (.ref x0), .val (.int x1)] [] := by first | (simp [entryFrame, mkF, argsToLocals, Value.category]; done) | rfl
def Q_rmLch2_1 (Z : State) (tb : Nat) (kb : ClassId) (c0 : Int32) (c1 : Int32) (gv : Value) (h0 : Heap) (n0 : Nat) (v : Option Value) (h : Heap) (L : List Loc) : Prop := v = some (.int c1) ∧ Fr n0 L ∧ h = h0
set_option maxRecDepth 65536 in
set_option maxHeartbeats 40000000 in
theorem rmLch2_1 (l : Launch) (Z : State) (a0 : Array Value) (hw : ∀ d ∈ tables_1, d.before a0 Z = true) (ws : List Jvm.Cond) (tb : Nat) (kb : ClassId) (c0 : Int32) (c1 : Int32) (gv : Value) (h0 : Heap) (n0 : Nat) (Z0 : n0 ≤ h0.size) (P1 : Arv Z h0 tb kb .byte (2 : Int32) [(.int (c0.toInt8.toInt32)), (.int (c1.toInt8.toInt32))] (.int (0 : Int32))) (OLD : Old Z n0 h0) (P2 : Sta Z Z.heap "jdk/internal/util/Preconditions" "SIOOBE_FORMATTER" "Ljava/util/function/BiFunction;" gv) (hrg : own_rg c1) (hgv : gv.isRef = true) :
    MetFree l (⟨"java/lang/StringLatin1", "charAt", "([BI)C"⟩ : MethodName) (head1 (Jvm.Cond.code (⟨"java/lang/StringLatin1", "charAt", "([BI)C"⟩ : MethodName) jdk_43_method_2_code 2 (some .char) :: ws) ({ frames := 2, cells := 0, slots := 0, locals := 27 } : Room)) (fun a U => a = #[(.ref tb), (.int (1 : Int32))] ∧ Z.Warmed39 U.vm ∧ U.heap = h0) (fun _ _ _ _ _ => True) (fun _ U o U' => ∃ v L, o = .returned v ∧ Q_rmLch2_1 Z tb kb c0 c1 gv h0 n0 v U'.heap L ∧ FrameEnd U o U' L ({ frames := 2, cells := 0, slots := 0, locals := 27 } : Room).cells ({ frames := 2, cells := 0, slots := 0, locals := 27 } : Room).slots) := by
  refine MetFree.of_bodySF (plainFor_of_name pn_java_lang_StringLatin1) hisR ?_
  intro p e s m args below meth c s₁ Bd hml0 hP hK
  obtain ⟨rfl, hZ, hh⟩ := hP
  have hx := Bd.exec
  have hby := Bd.bytes
  have hml : c.maxLocals = 2 := hml0
  have hown : s.vm.findClass "java/lang/StringLatin1" = some m.cls := findClass_of_methodNamed Bd.named
  have hnm := (name_of_methodNamed Bd.named Bd.method).1
  have X0 : Stand p l e ({ frames := 2, cells := 0, slots := 0, locals := 27 } : Room) s m #[(.ref tb), (.int (1 : Int32))] below meth c s₁ [] 0 0 := Stand.of_body Bd
  have e0 : s₁.heap = h0 := by rw [← hh, Bd.state]; rfl
  have N0 := Fr.nil n0
  have pre0 : ∀ t, Steps p.tables e below (s₁.setTop (mkF m 0 #[.val (.ref tb), .val (.int (1 : Int32))] [])) t → Steps p.tables e below (s₁.setTop (entryFrame m #[(.ref tb), (.int (1 : Int32))] 2)) t := fun t k => castTop (ef_rmLch2_1 m tb (1 : Int32)) k
  have oz := OLD.1
  have lt_tb : tb < h0.size := P1.lt
  refine own_go (B := s₁.setTop (mkF m 0 #[.val (.ref tb), .val (.int (1 : Int32))] [])) pre0 ?_
  show ∃ t o, Steps p.tables e below (s₁.setTop (mkF m 0 #[.val (.ref tb), .val (.int (1 : Int32))] [])) t ∧ _
  refine own_go (fun _ => XS.iloadN X0.here hx rfl (hb hby d15_0) rfl) ?_
  refine own_go (fun _ => XS.aloadN X0.here hx rfl (hb hby d15_1) rfl rfl) ?_
  obtain ⟨cl3, Ar3, q3, S3, N3, H3, G3⟩ := id P1
  have ln3 : cl3.slots.size.toInt32 = (2 : Int32) := len_of S3 N3
  have al3 := X0.arraylength hx (by rw [e0]; exact Ar3.1) (State.isArrayOf_alike hZ.alike Ar3.2.1) (g := (mkF m 2 #[.val (.ref tb), .val (.int (1 : Int32))] [(.ref tb), (.int (1 : Int32))])) rfl rfl (hb hby d15_2)
  rw [ln3] at al3
  refine own_go al3 ?_
  show ∃ t o, Steps p.tables e below (s₁.setTop (mkF m 3 #[.val (.ref tb), .val (.int (1 : Int32))] [(.int (2 : Int32)), (.int (1 : Int32))])) t ∧ _
  obtain ⟨_, _, ⟨T4, L4, k4, n4⟩, -, X4, ⟨Lc4, hQ4, l4, y4, z4⟩, st4⟩ := Jvm.LawKit.callS X0 hx (y := (⟨"java/lang/String", "checkIndex", "(II)V"⟩ : MethodName)) hown (mvT hZ (hw _ (List.mem_of_getElem? (i := 75) rfl))) (mvT hZ (hw _ (List.mem_of_getElem? (i := 76) rfl))) (mvT hZ (hw _ (List.mem_of_getElem? (i := 7) rfl))) (mvT hZ (hw _ (List.mem_of_getElem? (i := 77) rfl))) (by decide) (backOf (W := 0) (rmCi l Z a0 hw [] (1 : Int32) (2 : Int32) gv h0 n0 Z0 OLD P2 hgv (by decide) (by decide)) hZ (hw _ (List.mem_of_getElem? (i := 77) rfl)) (hw _ (List.mem_of_getElem? (i := 7) rfl)) (by decide) (by decide)) (g := (mkF m 3 #[.val (.ref tb), .val (.int (1 : Int32))] [(.int (2 : Int32)), (.int (1 : Int32))])) rfl (by rw [hml]; rfl) (argsL := [(.int (1 : Int32)), (.int (2 : Int32))]) (rest := []) (lenOf pd__28II_29V rfl) rfl (by show 2 * 0 + _ ≤ _; exact Nat.le_of_eq rfl) (hb hby d15_3) (fun _ _ => ⟨rfl, e0, (by decide : 0 + 0 ≤ _), (by decide : 0 + 0 ≤ _)⟩)
  dsimp only [Pt.U, Pt.locs, Pt.cells, Pt.slots] at X4 l4 y4 z4 st4 hQ4
  subst l4 y4 z4
  obtain ⟨rfl, Nq4, e4⟩ := hQ4
  have N4 := Fr.app N0 Nq4
  refine own_go st4 ?_
  refine own_go (fun _ => XS.aloadN X4.here hx rfl (hb hby d15_6) rfl rfl) ?_
  refine own_go (fun _ => XS.iloadN X4.here hx rfl (hb hby d15_7) rfl) ?_
  show ∃ t o, Steps p.tables e below (T4.setTop (mkF m 8 #[.val (.ref tb), .val (.int (1 : Int32))] [(.int (1 : Int32)), (.ref tb)])) t ∧ _
  obtain ⟨cl5, Ar5, q5, S5, N5, H5, G5⟩ := id P1
  have hin5 : ¬ ((1 : Int32) < 0 ∨ cl5.slots.size ≤ ((1 : Int32)).toNatClampNeg) := inb_of S5 ⟨by decide, by decide⟩
  have hat5 : cl5.slots[((1 : Int32)).toNatClampNeg]? = some (.int (c1.toInt8.toInt32)) := Has.at H5 hin5 rfl
  refine own_go (fun _ => X4.baloadBytes hx (j := (1 : Int32)) (v := (.int (c1.toInt8.toInt32))) (by rw [e4]; exact Ar5.1) (State.isArrayOf_alike hZ.alike Ar5.2.1) Ar5.2.2 hin5 hat5 (g := (mkF m 8 #[.val (.ref tb), .val (.int (1 : Int32))] [(.int (1 : Int32)), (.ref tb)])) rfl rfl (hb hby d15_8) _) ?_
  refine own_go (fun _ => XS.sipush X4.here hx rfl (hb hby d15_9)) ?_
  refine own_go (fun _ => XS.iand X4.here hx rfl (hb hby d15_12) rfl) ?_
  show ∃ t o, Steps p.tables e below (T4.setTop (mkF m 13 #[.val (.ref tb), .val (.int (1 : Int32))] [(.int ((c1.toInt8.toInt32) &&& (255 : Int32)))])) t ∧ _
  refine own_go (fun _ => XS.i2c X4.here hx rfl (hb hby d15_13) rfl) ?_
  show ∃ t o, Steps p.tables e below (T4.setTop (mkF m 14 #[.val (.ref tb), .val (.int (1 : Int32))] [(.int (((c1.toInt8.toInt32) &&& (255 : Int32)).toUInt32.toUInt16.toUInt32.toInt32))])) t ∧ _
  obtain ⟨fs, hr, hrun, hended, hW, hsame⟩ := X4.leave (v := some (.int (nar .char (((c1.toInt8.toInt32) &&& (255 : Int32)).toUInt32.toUInt16.toUInt32.toInt32)))) (fun h => by rw [Bd.returns] at h; cases h)
  refine ⟨_, _, ?_, hrun, hended, _, _, rfl, ?_, ⟨_, rfl⟩, hW, hsame.mono (by decide) (by decide)⟩
  · exact retN X4 hx (t := .char) Bd.returns (by simp) (hb hby d15_14) hr
  · show Q_rmLch2_1 Z _ _ _ _ _ h0 n0 _ T4.heap _
    rw [e4]
    exact ⟨(congrArg (fun z => some (Value.int z)) (own_back hrg)), N4, rfl⟩
theorem ef_rmCh2_1 (m : MethodId) (x0 : Nat) (x1 : Int32) : entryFrame m #[(.ref x0), (.int x1)] 2 = mkF m 0 #[.val (.ref x0), .val (.int x1)] [] := by first | (simp [entryFrame, mkF, argsToLocals, Value.category]; done) | rfl
def Q_rmCh2_1 (Z : State) (so : Nat) (tb : Nat) (kb : ClassId) (c0 : Int32) (c1 : Int32) (zc : Int32) (gv : Value) (h0 : Heap) (n0 : Nat) (v : Option Value) (h : Heap) (L : List Loc) : Prop := v = some (.int c1) ∧ Fr n0 L ∧ h = h0
set_option maxRecDepth 65536 in
set_option maxHeartbeats 40000000 in
theorem rmCh2_1 (l : Launch) (Z : State) (a0 : Array Value) (hw : ∀ d ∈ tables_1, d.before a0 Z = true) (ws : List Jvm.Cond) (so : Nat) (tb : Nat) (kb : ClassId) (c0 : Int32) (c1 : Int32) (zc : Int32) (gv : Value) (h0 : Heap) (n0 : Nat) (Z0 : n0 ≤ h0.size) (P1 : Exa Z h0 so "java/lang/String") (P2 : Fld Z h0 so "java/lang/String" "value" "[B" (.ref tb)) (P3 : Fld Z h0 so "java/lang/String" "coder" "B" (.int (0 : Int32))) (P4 : Arv Z h0 tb kb .byte (2 : Int32) [(.int (c0.toInt8.toInt32)), (.int (c1.toInt8.toInt32))] (.int (0 : Int32))) (OLD : Old Z n0 h0) (P5 : Sta Z Z.heap "java/lang/String" "COMPACT_STRINGS" "Z" (.int zc)) (P6 : Sta Z Z.heap "jdk/internal/util/Preconditions" "SIOOBE_FORMATTER" "Ljava/util/function/BiFunction;" gv) (hzc : ¬ (zc = (0 : Int32))) (hgv : gv.isRef = true) (hrg : own_rg c1) :
    MetFree l (⟨"java/lang/String", "charAt", "(I)C"⟩ : MethodName) (head1 (Jvm.Cond.code (⟨"java/lang/String", "charAt", "(I)C"⟩ : MethodName) jdk_42_method_56_code 2 (some .char) :: ws) ({ frames := 3, cells := 0, slots := 0, locals := 40 } : Room)) (fun a U => a = #[(.ref so), (.int (1 : Int32))] ∧ Z.Warmed39 U.vm ∧ U.heap = h0) (fun _ _ _ _ _ => True) (fun _ U o U' => ∃ v L, o = .returned v ∧ Q_rmCh2_1 Z so tb kb c0 c1 zc gv h0 n0 v U'.heap L ∧ FrameEnd U o U' L ({ frames := 3, cells := 0, slots := 0, locals := 40 } : Room).cells ({ frames := 3, cells := 0, slots := 0, locals := 40 } : Room).slots) := by
  refine MetFree.of_bodySF (plainFor_of_name pn_java_lang_String) hisR ?_
  intro p e s m args below meth c s₁ Bd hml0 hP hK
  obtain ⟨rfl, hZ, hh⟩ := hP
  have hx := Bd.exec
  have hby := Bd.bytes
  have hml : c.maxLocals = 2 := hml0
  have hown : s.vm.findClass "java/lang/String" = some m.cls := findClass_of_methodNamed Bd.named
  have hnm := (name_of_methodNamed Bd.named Bd.method).1
  have X0 : Stand p l e ({ frames := 3, cells := 0, slots := 0, locals := 40 } : Room) s m #[(.ref so), (.int (1 : Int32))] below meth c s₁ [] 0 0 := Stand.of_body Bd
  have e0 : s₁.heap = h0 := by rw [← hh, Bd.state]; rfl
  have N0 := Fr.nil n0
  have pre0 : ∀ t, Steps p.tables e below (s₁.setTop (mkF m 0 #[.val (.ref so), .val (.int (1 : Int32))] [])) t → Steps p.tables e below (s₁.setTop (entryFrame m #[(.ref so), (.int (1 : Int32))] 2)) t := fun t k => castTop (ef_rmCh2_1 m so (1 : Int32)) k
  have oz := OLD.1
  have lt_so : so < h0.size := P1.lt
  have lt_tb : tb < h0.size := P4.lt
  refine own_go (B := s₁.setTop (mkF m 0 #[.val (.ref so), .val (.int (1 : Int32))] [])) pre0 ?_
  show ∃ t o, Steps p.tables e below (s₁.setTop (mkF m 0 #[.val (.ref so), .val (.int (1 : Int32))] [])) t ∧ _
  refine own_go (fun _ => XS.aloadN X0.here hx rfl (hb hby d13_0) rfl rfl) ?_
  show ∃ t o, Steps p.tables e below (s₁.setTop (mkF m 1 #[.val (.ref so), .val (.int (1 : Int32))] [(.ref so)])) t ∧ _
  obtain ⟨cq7, kq7, q7a, q7b, q7c⟩ := isOf hZ e0 P1
  obtain ⟨_, _, ⟨T7, L7, k7, n7⟩, -, X7, ⟨Lc7, hQ7, l7, y7, z7⟩, st7⟩ := X0.virtualBack hx (y := (⟨"java/lang/String", "isLatin1", "()Z"⟩ : MethodName)) (z := (⟨"java/lang/String", "isLatin1", "()Z"⟩ : MethodName)) hown (mvT hZ (hw _ (List.mem_of_getElem? (i := 66) rfl))) (mvT hZ (hw _ (List.mem_of_getElem? (i := 67) rfl))) (notFace_of_selects (args := #[]) (mvT hZ (hw _ (List.mem_of_getElem? (i := 69) rfl)))) (mvT hZ (hw _ (List.mem_of_getElem? (i := 69) rfl))) (mvT hZ (hw _ (List.mem_of_getElem? (i := 68) rfl))) (by decide) (backOf (W := 0) (rmLat l Z a0 hw [] so zc h0 n0 Z0 P3 OLD P5 hzc) hZ (hw _ (List.mem_of_getElem? (i := 70) rfl)) (hw _ (List.mem_of_getElem? (i := 7) rfl)) (by decide) (by decide)) q7a q7c (g := (mkF m 1 #[.val (.ref so), .val (.int (1 : Int32))] [(.ref so)])) rfl (by rw [hml]; rfl) (Steps.refl _) (argsL := []) (rest := []) (lenOf pd__28_29Z rfl) rfl (by show 2 * 0 + _ ≤ _; exact Nat.le_of_eq rfl) (hb hby d13_1) (fun _ _ => ⟨rfl, e0, (by decide : 0 + 0 ≤ _), (by decide : 0 + 0 ≤ _)⟩)
  dsimp only [Pt.U, Pt.locs, Pt.cells, Pt.slots] at X7 l7 y7 z7 st7 hQ7
  subst l7 y7 z7
  obtain ⟨rfl, Nq7, e7⟩ := hQ7
  have N7 := Fr.app N0 Nq7
  refine own_goT st7 ?_
  show ∃ t o, Steps p.tables e below (T7.setTop (mkF m 4 #[.val (.ref so), .val (.int (1 : Int32))] [(.int (1 : Int32))])) t ∧ _
  refine own_go (fun _ => XS.ifNo X7.here hx rfl (hb hby d13_4) rfl ((if0 _ _).trans (feq (by decide : ¬ ((1 : Int32) = (0 : Int32)))).1)) ?_
  refine own_go (fun _ => XS.aloadN X7.here hx rfl (hb hby d13_7) rfl rfl) ?_
  obtain ⟨T8, X8, e8, st8⟩ := getF X7 hx hZ hown (host := "") (Or.inl (hw _ (List.mem_of_getElem? (i := 33) rfl))) Via.refl e7 P2 (g := (mkF m 8 #[.val (.ref so), .val (.int (1 : Int32))] [(.ref so)])) rfl rfl (hb hby d13_8)
  refine own_go st8 ?_
  show ∃ t o, Steps p.tables e below (T8.setTop (mkF m 11 #[.val (.ref so), .val (.int (1 : Int32))] [(.ref tb)])) t ∧ _
  refine own_go (fun _ => XS.iloadN X8.here hx rfl (hb hby d13_11) rfl) ?_
  show ∃ t o, Steps p.tables e below (T8.setTop (mkF m 12 #[.val (.ref so), .val (.int (1 : Int32))] [(.int (1 : Int32)), (.ref tb)])) t ∧ _
  obtain ⟨_, _, ⟨T9, L9, k9, n9⟩, -, X9, ⟨Lc9, hQ9, l9, y9, z9⟩, st9⟩ := Jvm.LawKit.callS X8 hx (y := (⟨"java/lang/StringLatin1", "charAt", "([BI)C"⟩ : MethodName)) hown (mvT hZ (hw _ (List.mem_of_getElem? (i := 71) rfl))) (mvT hZ (hw _ (List.mem_of_getElem? (i := 72) rfl))) (mvT hZ (hw _ (List.mem_of_getElem? (i := 73) rfl))) (mvT hZ (hw _ (List.mem_of_getElem? (i := 74) rfl))) (by decide) (backOf (W := 0) (rmLch2_1 l Z a0 hw [] tb kb c0 c1 gv h0 n0 Z0 P4 OLD P6 hrg hgv) hZ (hw _ (List.mem_of_getElem? (i := 74) rfl)) (hw _ (List.mem_of_getElem? (i := 73) rfl)) (by decide) (by decide)) (g := (mkF m 12 #[.val (.ref so), .val (.int (1 : Int32))] [(.int (1 : Int32)), (.ref tb)])) rfl (by rw [hml]; rfl) (argsL := [(.ref tb), (.int (1 : Int32))]) (rest := []) (lenOf pd__28_5bBI_29C rfl) rfl (by show 2 * 0 + _ ≤ _; exact Nat.le_of_eq rfl) (hb hby d13_12) (fun _ _ => ⟨rfl, e8, (by decide : 0 + 0 ≤ _), (by decide : 0 + 0 ≤ _)⟩)
  dsimp only [Pt.U, Pt.locs, Pt.cells, Pt.slots] at X9 l9 y9 z9 st9 hQ9
  subst l9 y9 z9
  obtain ⟨rfl, Nq9, e9⟩ := hQ9
  have N9 := Fr.app N7 Nq9
  refine own_go st9 ?_
  show ∃ t o, Steps p.tables e below (T9.setTop (mkF m 15 #[.val (.ref so), .val (.int (1 : Int32))] [(.int c1)])) t ∧ _
  obtain ⟨fs, hr, hrun, hended, hW, hsame⟩ := X9.leave (v := some (.int (nar .char c1))) (fun h => by rw [Bd.returns] at h; cases h)
  refine ⟨_, _, ?_, hrun, hended, _, _, rfl, ?_, ⟨_, rfl⟩, hW, hsame.mono (by decide) (by decide)⟩
  · exact retN X9 hx (t := .char) Bd.returns (by simp) (hb hby d13_15) hr
  · show Q_rmCh2_1 Z _ _ _ _ _ _ _ h0 n0 _ T9.heap _
    rw [e9]
    exact ⟨(congrArg (fun z => some (Value.int z)) (own_narc hrg)), N9, rfl⟩
theorem ef_rmOf2 (m : MethodId) (x0 : Nat) : entryFrame m #[(.ref x0)] 2 = mkF m 0 #[.val (.ref x0), .unset] [] := by first | (simp [entryFrame, mkF, argsToLocals, Value.category]; done) | rfl
def Q_rmOf2 (Z : State) (so : Nat) (tb : Nat) (kb : ClassId) (c0 : Int32) (c1 : Int32) (zc : Int32) (gv : Value) (h0 : Heap) (n0 : Nat) (v : Option Value) (h : Heap) (L : List Loc) : Prop := ∃ (b : Nat), v = some (.ref b) ∧ Fr n0 L ∧ Keep h0 h [] ∧ Exa Z h b "com/example/libtardy/libtardy/QueueName" ∧ Fld Z h b "com/example/libtardy/libtardy/QueueName" "name" "Ljava/lang/String;" (.ref so)
set_option maxRecDepth 65536 in
set_option maxHeartbeats 40000000 in
theorem rmOf2 (l : Launch) (Z : State) (a0 : Array Value) (hw : ∀ d ∈ tables_1, d.before a0 Z = true) (ws : List Jvm.Cond) (so : Nat) (tb : Nat) (kb : ClassId) (c0 : Int32) (c1 : Int32) (zc : Int32) (gv : Value) (h0 : Heap) (n0 : Nat) (Z0 : n0 ≤ h0.size) (P1 : Exa Z h0 so "java/lang/String") (P2 : Fld Z h0 so "java/lang/String" "value" "[B" (.ref tb)) (P3 : Fld Z h0 so "java/lang/String" "coder" "B" (.int (0 : Int32))) (P4 : Arv Z h0 tb kb .byte (2 : Int32) [(.int (c0.toInt8.toInt32)), (.int (c1.toInt8.toInt32))] (.int (0 : Int32))) (OLD : Old Z n0 h0) (P5 : Sta Z Z.heap "java/lang/String" "COMPACT_STRINGS" "Z" (.int zc)) (P6 : Sta Z Z.heap "jdk/internal/util/Preconditions" "SIOOBE_FORMATTER" "Ljava/util/function/BiFunction;" gv) (hzc : ¬ (zc = (0 : Int32))) (hgv : gv.isRef = true) (ok0 : own_ok c0) (ok1 : own_ok c1) :
    MetFree l (⟨"com/example/libtardy/libtardy/QueueName", "of", "(Ljava/lang/String;)Lcom/example/libtardy/libtardy/QueueName;"⟩ : MethodName) (head1 (Jvm.Cond.code (⟨"com/example/libtardy/libtardy/QueueName", "of", "(Ljava/lang/String;)Lcom/example/libtardy/libtardy/QueueName;"⟩ : MethodName) prog_6_method_2_code 2 (some (.object "com/example/libtardy/libtardy/QueueName")) :: ws) ({ frames := 4, cells := 3, slots := 21, locals := 53 } : Room)) (fun a U => a = #[(.ref so)] ∧ Z.Warmed39 U.vm ∧ U.heap = h0) (fun _ _ _ _ _ => True) (fun _ U o U' => ∃ v L, o = .returned v ∧ Q_rmOf2 Z so tb kb c0 c1 zc gv h0 n0 v U'.heap L ∧ ReturnedEndW U o U' L ({ frames := 4, cells := 3, slots := 21, locals := 53 } : Room).cells ({ frames := 4, cells := 3, slots := 21, locals := 53 } : Room).slots) := by
  refine MetFree.of_bodySF (plainFor_of_name pn_com_example_libtardy_libtardy_QueueName) hisR ?_
  intro p e s m args below meth c s₁ Bd hml0 hP hK
  obtain ⟨rfl, hZ, hh⟩ := hP
  have hx := Bd.exec
  have hby := Bd.bytes
  have hml : c.maxLocals = 2 := hml0
  have hown : s.vm.findClass "com/example/libtardy/libtardy/QueueName" = some m.cls := findClass_of_methodNamed Bd.named
  have hnm := (name_of_methodNamed Bd.named Bd.method).1
  have X0 : Stand p l e ({ frames := 4, cells := 3, slots := 21, locals := 53 } : Room) (s.setVm s.vm) m #[(.ref so)] below meth c s₁ [] 0 0 := Stand.of_body Bd
  have e0 : s₁.heap = h0 := by rw [← hh, Bd.state]; rfl
  have N0 := Fr.nil n0
  have pre0 : ∀ t, Steps p.tables e below (s₁.setTop (mkF m 0 #[.val (.ref so), .unset] [])) t → Steps p.tables e below (s₁.setTop (entryFrame m #[(.ref so)] 2)) t := fun t k => castTop (ef_rmOf2 m so) k
  have hZ : Z.Warmed39 (s.setVm s.vm).vm := hZ
  have hown : (s.setVm s.vm).vm.findClass "com/example/libtardy/libtardy/QueueName" = some m.cls := hown
  have hS : s.Since s.vm 0 := (State.WarmedH.refl s).since 0
  have wS : ∀ a ∈ Bundle.stringAtoms, a.before a0 Z = true := fun d hd => hw d ((by decide +kernel : ∀ d ∈ Bundle.stringAtoms, d ∈ tables_1) d hd)
  have oz := OLD.1
  have lt_so : so < h0.size := P1.lt
  have lt_tb : tb < h0.size := P4.lt
  refine own_go (B := s₁.setTop (mkF m 0 #[.val (.ref so), .unset] [])) pre0 ?_
  show ∃ t o, Steps p.tables e below (s₁.setTop (mkF m 0 #[.val (.ref so), .unset] [])) t ∧ _
  refine own_go (fun _ => XS.aloadN X0.here hx rfl (hb hby d8_0) rfl rfl) ?_
  obtain ⟨a7, T7, h7, kS7, X7, e7, E7, hS, hk7, hZ, hown, st7⟩ := ldcS X0 hx hZ hown (hw _ (List.mem_of_getElem? (i := 39) rfl)) wS e0 hS (Nat.zero_le _) (g := (mkF m 1 #[.val (.ref so), .unset] [(.ref so)])) rfl (hb hby d8_1) (n := 16) (by decide) (by decide) (by decide) (by decide)
  refine own_go st7 ?_
  have K7 : Keep h0 h7 [] := Keep.ext (Keep.refl h0 []) E7
  have le_7 : h0.size ≤ h7.size := E7.1
  show ∃ t o, Steps p.tables e below (T7.setTop (mkF m 3 #[.val (.ref so), .unset] [(.ref a7), (.ref so)])) t ∧ _
  have F8 : Old Z n0 h7 := (OLD.ext E7)
  have zl9 : n0 ≤ h7.size := by omega
  obtain ⟨_, _, ⟨T10, L10, k10, n10⟩, -, X10, ⟨Lc10, hQ10, l10, y10, z10⟩, st10⟩ := Jvm.LawKit.callS X7 hx (y := (⟨"java/util/Objects", "requireNonNull", "(Ljava/lang/Object;Ljava/lang/String;)Ljava/lang/Object;"⟩ : MethodName)) hown (mvT hZ (hw _ (List.mem_of_getElem? (i := 42) rfl))) (mvT hZ (hw _ (List.mem_of_getElem? (i := 43) rfl))) (mvT hZ (hw _ (List.mem_of_getElem? (i := 44) rfl))) (mvT hZ (hw _ (List.mem_of_getElem? (i := 45) rfl))) (by decide) (backOf (W := 0) (rmRnn l Z a0 hw [] so a7 h7 n0 zl9 F8) hZ (hw _ (List.mem_of_getElem? (i := 45) rfl)) (hw _ (List.mem_of_getElem? (i := 44) rfl)) (by decide) (by decide)) (g := (mkF m 3 #[.val (.ref so), .unset] [(.ref a7), (.ref so)])) rfl (by rw [hml]; rfl) (argsL := [(.ref so), (.ref a7)]) (rest := []) (lenOf pd_hb4046d0a rfl) rfl (by show 2 * 0 + _ ≤ _; exact Nat.le_of_eq rfl) (hb hby d8_3) (fun _ _ => ⟨rfl, e7, (by decide : 2 + 0 ≤ _), (by decide : 20 + 0 ≤ _)⟩)
  dsimp only [Pt.U, Pt.locs, Pt.cells, Pt.slots] at X10 l10 y10 z10 st10 hQ10
  subst l10 y10 z10
  obtain ⟨rfl, Nq10, e10⟩ := hQ10
  have N10 := Fr.app N0 Nq10
  refine own_go st10 ?_
  refine own_go (fun _ => XS.pop X10.here hx rfl (hb hby d8_6) rfl rfl) ?_
  refine own_go (fun _ => XS.aloadN X10.here hx rfl (hb hby d8_7) rfl rfl) ?_
  show ∃ t o, Steps p.tables e below (T10.setTop (mkF m 8 #[.val (.ref so), .unset] [(.ref so)])) t ∧ _
  have F11 : Exa Z h7 so "java/lang/String" := (Exa.ext E7 P1)
  have F12 : Fld Z h7 so "java/lang/String" "value" "[B" (.ref tb) := (Fld.ext E7 P2)
  have F13 : Fld Z h7 so "java/lang/String" "coder" "B" (.int (0 : Int32)) := (Fld.ext E7 P3)
  have F14 : Arv Z h7 tb kb .byte (2 : Int32) [(.int (c0.toInt8.toInt32)), (.int (c1.toInt8.toInt32))] (.int (0 : Int32)) := (P4.ext E7)
  obtain ⟨cq15, kq15, q15a, q15b, q15c⟩ := isOf hZ e10 F11
  obtain ⟨_, _, ⟨T15, L15, k15, n15⟩, -, X15, ⟨Lc15, hQ15, l15, y15, z15⟩, st15⟩ := X10.virtualBack hx (y := (⟨"java/lang/String", "isEmpty", "()Z"⟩ : MethodName)) (z := (⟨"java/lang/String", "isEmpty", "()Z"⟩ : MethodName)) hown (mvT hZ (hw _ (List.mem_of_getElem? (i := 46) rfl))) (mvT hZ (hw _ (List.mem_of_getElem? (i := 47) rfl))) (notFace_of_selects (args := #[]) (mvT hZ (hw _ (List.mem_of_getElem? (i := 49) rfl)))) (mvT hZ (hw _ (List.mem_of_getElem? (i := 49) rfl))) (mvT hZ (hw _ (List.mem_of_getElem? (i := 48) rfl))) (by decide) (backOf (W := 0) (rmEmp2 l Z a0 hw [] so tb kb c0 c1 h7 n0 zl9 F11 F12 F13 F14 F8) hZ (hw _ (List.mem_of_getElem? (i := 50) rfl)) (hw _ (List.mem_of_getElem? (i := 7) rfl)) (by decide) (by decide)) q15a q15c (g := (mkF m 8 #[.val (.ref so), .unset] [(.ref so)])) rfl (by rw [hml]; rfl) (Steps.refl _) (argsL := []) (rest := []) (lenOf pd__28_29Z rfl) rfl (by show 2 * 0 + _ ≤ _; exact Nat.le_of_eq rfl) (hb hby d8_8) (fun _ _ => ⟨rfl, e10, (by decide : 2 + 0 ≤ _), (by decide : 20 + 0 ≤ _)⟩)
  dsimp only [Pt.U, Pt.locs, Pt.cells, Pt.slots] at X15 l15 y15 z15 st15 hQ15
  subst l15 y15 z15
  obtain ⟨rfl, Nq15, e15⟩ := hQ15
  have N15 := Fr.app N10 Nq15
  refine own_goT st15 ?_
  show ∃ t o, Steps p.tables e below (T15.setTop (mkF m 11 #[.val (.ref so), .unset] [(.int (0 : Int32))])) t ∧ _
  refine own_go (fun _ => XS.ifNo X15.here hx rfl (hb hby d8_11) rfl ((if0 _ _).trans (teq (by decide : (0 : Int32) = (0 : Int32))).2)) ?_
  refine own_go (fun _ => XS.aloadN X15.here hx rfl (hb hby d8_14) rfl rfl) ?_
  show ∃ t o, Steps p.tables e below (T15.setTop (mkF m 15 #[.val (.ref so), .unset] [(.ref so)])) t ∧ _
  obtain ⟨cq16, kq16, q16a, q16b, q16c⟩ := isOf hZ e15 F11
  obtain ⟨_, _, ⟨T16, L16, k16, n16⟩, -, X16, ⟨Lc16, hQ16, l16, y16, z16⟩, st16⟩ := X15.virtualBack hx (y := (⟨"java/lang/String", "length", "()I"⟩ : MethodName)) (z := (⟨"java/lang/String", "length", "()I"⟩ : MethodName)) hown (mvT hZ (hw _ (List.mem_of_getElem? (i := 51) rfl))) (mvT hZ (hw _ (List.mem_of_getElem? (i := 52) rfl))) (notFace_of_selects (args := #[]) (mvT hZ (hw _ (List.mem_of_getElem? (i := 54) rfl)))) (mvT hZ (hw _ (List.mem_of_getElem? (i := 54) rfl))) (mvT hZ (hw _ (List.mem_of_getElem? (i := 53) rfl))) (by decide) (backOf (W := 0) (rmLen2 l Z a0 hw [] so tb kb c0 c1 zc h7 n0 zl9 F11 F12 F13 F14 F8 P5 hzc) hZ (hw _ (List.mem_of_getElem? (i := 55) rfl)) (hw _ (List.mem_of_getElem? (i := 7) rfl)) (by decide) (by decide)) q16a q16c (g := (mkF m 15 #[.val (.ref so), .unset] [(.ref so)])) rfl (by rw [hml]; rfl) (Steps.refl _) (argsL := []) (rest := []) (lenOf pd__28_29I rfl) rfl (by show 2 * 0 + _ ≤ _; exact Nat.le_of_eq rfl) (hb hby d8_15) (fun _ _ => ⟨rfl, e15, (by decide : 2 + 0 ≤ _), (by decide : 20 + 0 ≤ _)⟩)
  dsimp only [Pt.U, Pt.locs, Pt.cells, Pt.slots] at X16 l16 y16 z16 st16 hQ16
  subst l16 y16 z16
  obtain ⟨rfl, Nq16, e16⟩ := hQ16
  have N16 := Fr.app N15 Nq16
  refine own_goT st16 ?_
  refine own_go (fun _ => XS.bipush X16.here hx rfl (hb hby d8_18)) ?_
  show ∃ t o, Steps p.tables e below (T16.setTop (mkF m 20 #[.val (.ref so), .unset] [(.int (100 : Int32)), (.int (2 : Int32))])) t ∧ _
  refine own_go (fun _ => XS.icmpYes X16.here hx rfl (pc0 := 20) (pc' := 40) rfl (hb hby d8_20) rfl (flt (by decide : ¬ ((100 : Int32) < (2 : Int32)))).2.2.2 (by decide) (by decide)) ?_
  refine own_go (fun _ => XS.iconst X16.here hx rfl (hb hby d8_40)) ?_
  refine own_go (fun _ => XS.istoreN X16.here hx rfl (hb hby d8_41) rfl (l' := #[.val (.ref so), .val (.int (0 : Int32))]) rfl) ?_
  show ∃ t o, Steps p.tables e below (T16.setTop (mkF m 42 #[.val (.ref so), .val (.int (0 : Int32))] [])) t ∧ _
  refine own_go (fun _ => XS.iloadN X16.here hx rfl (hb hby d8_42) rfl) ?_
  refine own_go (fun _ => XS.aloadN X16.here hx rfl (hb hby d8_43) rfl rfl) ?_
  show ∃ t o, Steps p.tables e below (T16.setTop (mkF m 44 #[.val (.ref so), .val (.int (0 : Int32))] [(.ref so), (.int (0 : Int32))])) t ∧ _
  obtain ⟨cq17, kq17, q17a, q17b, q17c⟩ := isOf hZ e16 F11
  obtain ⟨_, _, ⟨T17, L17, k17, n17⟩, -, X17, ⟨Lc17, hQ17, l17, y17, z17⟩, st17⟩ := X16.virtualBack hx (y := (⟨"java/lang/String", "length", "()I"⟩ : MethodName)) (z := (⟨"java/lang/String", "length", "()I"⟩ : MethodName)) hown (mvT hZ (hw _ (List.mem_of_getElem? (i := 51) rfl))) (mvT hZ (hw _ (List.mem_of_getElem? (i := 52) rfl))) (notFace_of_selects (args := #[]) (mvT hZ (hw _ (List.mem_of_getElem? (i := 54) rfl)))) (mvT hZ (hw _ (List.mem_of_getElem? (i := 54) rfl))) (mvT hZ (hw _ (List.mem_of_getElem? (i := 53) rfl))) (by decide) (backOf (W := 1) (rmLen2 l Z a0 hw [] so tb kb c0 c1 zc h7 n0 zl9 F11 F12 F13 F14 F8 P5 hzc) hZ (hw _ (List.mem_of_getElem? (i := 55) rfl)) (hw _ (List.mem_of_getElem? (i := 7) rfl)) (by decide) (by decide)) q17a q17c (g := (mkF m 44 #[.val (.ref so), .val (.int (0 : Int32))] [(.ref so), (.int (0 : Int32))])) rfl (by rw [hml]; rfl) (Steps.refl _) (argsL := []) (rest := [(.int (0 : Int32))]) (lenOf pd__28_29I rfl) rfl (by show 2 * 0 + _ ≤ _; exact Nat.le_of_eq rfl) (hb hby d8_44) (fun _ _ => ⟨rfl, e16, (by decide : 2 + 0 ≤ _), (by decide : 20 + 0 ≤ _)⟩)
  dsimp only [Pt.U, Pt.locs, Pt.cells, Pt.slots] at X17 l17 y17 z17 st17 hQ17
  subst l17 y17 z17
  obtain ⟨rfl, Nq17, e17⟩ := hQ17
  have N17 := Fr.app N16 Nq17
  refine own_goT st17 ?_
  show ∃ t o, Steps p.tables e below (T17.setTop (mkF m 47 #[.val (.ref so), .val (.int (0 : Int32))] [(.int (2 : Int32)), (.int (0 : Int32))])) t ∧ _
  refine own_go (fun _ => XS.icmpNo X17.here hx rfl (hb hby d8_47) rfl (tlt (by decide : (0 : Int32) < (2 : Int32))).2.1) ?_
  refine own_go (fun _ => XS.aloadN X17.here hx rfl (hb hby d8_50) rfl rfl) ?_
  refine own_go (fun _ => XS.iloadN X17.here hx rfl (hb hby d8_51) rfl) ?_
  show ∃ t o, Steps p.tables e below (T17.setTop (mkF m 52 #[.val (.ref so), .val (.int (0 : Int32))] [(.int (0 : Int32)), (.ref so)])) t ∧ _
  obtain ⟨cq18, kq18, q18a, q18b, q18c⟩ := isOf hZ e17 F11
  obtain ⟨_, _, ⟨T18, L18, k18, n18⟩, -, X18, ⟨Lc18, hQ18, l18, y18, z18⟩, st18⟩ := X17.virtualBack hx (y := (⟨"java/lang/String", "charAt", "(I)C"⟩ : MethodName)) (z := (⟨"java/lang/String", "charAt", "(I)C"⟩ : MethodName)) hown (mvT hZ (hw _ (List.mem_of_getElem? (i := 61) rfl))) (mvT hZ (hw _ (List.mem_of_getElem? (i := 62) rfl))) (notFace_of_selects (args := #[]) (mvT hZ (hw _ (List.mem_of_getElem? (i := 64) rfl)))) (mvT hZ (hw _ (List.mem_of_getElem? (i := 64) rfl))) (mvT hZ (hw _ (List.mem_of_getElem? (i := 63) rfl))) (by decide) (backOf (W := 0) (rmCh2_0 l Z a0 hw [] so tb kb c0 c1 zc gv h7 n0 zl9 F11 F12 F13 F14 F8 P5 P6 hzc hgv (own_okrg ok0 : own_rg c0)) hZ (hw _ (List.mem_of_getElem? (i := 65) rfl)) (hw _ (List.mem_of_getElem? (i := 7) rfl)) (by decide) (by decide)) q18a q18c (g := (mkF m 52 #[.val (.ref so), .val (.int (0 : Int32))] [(.int (0 : Int32)), (.ref so)])) rfl (by rw [hml]; rfl) (Steps.refl _) (argsL := [(.int (0 : Int32))]) (rest := []) (lenOf pd__28I_29C rfl) rfl (by show 2 * 0 + _ ≤ _; exact Nat.le_of_eq rfl) (hb hby d8_52) (fun _ _ => ⟨rfl, e17, (by decide : 2 + 0 ≤ _), (by decide : 20 + 0 ≤ _)⟩)
  dsimp only [Pt.U, Pt.locs, Pt.cells, Pt.slots] at X18 l18 y18 z18 st18 hQ18
  subst l18 y18 z18
  obtain ⟨rfl, Nq18, e18⟩ := hQ18
  have N18 := Fr.app N17 Nq18
  refine own_goT st18 ?_
  show ∃ t o, Steps p.tables e below (T18.setTop (mkF m 55 #[.val (.ref so), .val (.int (0 : Int32))] [(.int c0)])) t ∧ _
  obtain ⟨_, _, ⟨T19, L19, k19, n19⟩, -, X19, ⟨Lc19, hQ19, l19, y19, z19⟩, st19⟩ := Jvm.LawKit.callS X18 hx (y := (⟨"com/example/libtardy/libtardy/QueueName", "isAllowed", "(C)Z"⟩ : MethodName)) hown (mvT hZ (hw _ (List.mem_of_getElem? (i := 83) rfl))) (mvT hZ (hw _ (List.mem_of_getElem? (i := 84) rfl))) (mvT hZ (hw _ (List.mem_of_getElem? (i := 37) rfl))) (mvT hZ (hw _ (List.mem_of_getElem? (i := 85) rfl))) (by decide) (backOf (W := 0) (rmIs l Z a0 hw [] c0 h7 n0 zl9 F8 (ok0 : own_ok c0)) hZ (hw _ (List.mem_of_getElem? (i := 85) rfl)) (hw _ (List.mem_of_getElem? (i := 37) rfl)) (by decide) (by decide)) (g := (mkF m 55 #[.val (.ref so), .val (.int (0 : Int32))] [(.int c0)])) rfl (by rw [hml]; rfl) (argsL := [(.int c0)]) (rest := []) (lenOf pd__28C_29Z rfl) rfl (by show 2 * 0 + _ ≤ _; exact Nat.le_of_eq rfl) (hb hby d8_55) (fun _ _ => ⟨rfl, e18, (by decide : 2 + 0 ≤ _), (by decide : 20 + 0 ≤ _)⟩)
  dsimp only [Pt.U, Pt.locs, Pt.cells, Pt.slots] at X19 l19 y19 z19 st19 hQ19
  subst l19 y19 z19
  obtain ⟨rfl, Nq19, e19⟩ := hQ19
  have N19 := Fr.app N18 Nq19
  refine own_go st19 ?_
  show ∃ t o, Steps p.tables e below (T19.setTop (mkF m 58 #[.val (.ref so), .val (.int (0 : Int32))] [(.int (1 : Int32))])) t ∧ _
  refine own_go (fun _ => XS.ifYes X19.here hx rfl (pc0 := 58) (pc' := 96) rfl (hb hby d8_58) rfl ((if0 _ _).trans (feq (by decide : ¬ ((1 : Int32) = (0 : Int32)))).2) (by decide) (by decide)) ?_
  refine own_go (fun _ => XS.iinc X19.here hx rfl (hb hby d8_96) rfl (l' := #[.val (.ref so), .val (.int (1 : Int32))]) rfl) ?_
  refine own_go (fun _ => XS.goto X19.here hx rfl (pc0 := 99) (pc' := 42) rfl (hb hby d8_99) (by decide) (by decide)) ?_
  show ∃ t o, Steps p.tables e below (T19.setTop (mkF m 42 #[.val (.ref so), .val (.int (1 : Int32))] [])) t ∧ _
  refine own_go (fun _ => XS.iloadN X19.here hx rfl (hb hby d8_42) rfl) ?_
  refine own_go (fun _ => XS.aloadN X19.here hx rfl (hb hby d8_43) rfl rfl) ?_
  show ∃ t o, Steps p.tables e below (T19.setTop (mkF m 44 #[.val (.ref so), .val (.int (1 : Int32))] [(.ref so), (.int (1 : Int32))])) t ∧ _
  obtain ⟨cq20, kq20, q20a, q20b, q20c⟩ := isOf hZ e19 F11
  obtain ⟨_, _, ⟨T20, L20, k20, n20⟩, -, X20, ⟨Lc20, hQ20, l20, y20, z20⟩, st20⟩ := X19.virtualBack hx (y := (⟨"java/lang/String", "length", "()I"⟩ : MethodName)) (z := (⟨"java/lang/String", "length", "()I"⟩ : MethodName)) hown (mvT hZ (hw _ (List.mem_of_getElem? (i := 51) rfl))) (mvT hZ (hw _ (List.mem_of_getElem? (i := 52) rfl))) (notFace_of_selects (args := #[]) (mvT hZ (hw _ (List.mem_of_getElem? (i := 54) rfl)))) (mvT hZ (hw _ (List.mem_of_getElem? (i := 54) rfl))) (mvT hZ (hw _ (List.mem_of_getElem? (i := 53) rfl))) (by decide) (backOf (W := 1) (rmLen2 l Z a0 hw [] so tb kb c0 c1 zc h7 n0 zl9 F11 F12 F13 F14 F8 P5 hzc) hZ (hw _ (List.mem_of_getElem? (i := 55) rfl)) (hw _ (List.mem_of_getElem? (i := 7) rfl)) (by decide) (by decide)) q20a q20c (g := (mkF m 44 #[.val (.ref so), .val (.int (1 : Int32))] [(.ref so), (.int (1 : Int32))])) rfl (by rw [hml]; rfl) (Steps.refl _) (argsL := []) (rest := [(.int (1 : Int32))]) (lenOf pd__28_29I rfl) rfl (by show 2 * 0 + _ ≤ _; exact Nat.le_of_eq rfl) (hb hby d8_44) (fun _ _ => ⟨rfl, e19, (by decide : 2 + 0 ≤ _), (by decide : 20 + 0 ≤ _)⟩)
  dsimp only [Pt.U, Pt.locs, Pt.cells, Pt.slots] at X20 l20 y20 z20 st20 hQ20
  subst l20 y20 z20
  obtain ⟨rfl, Nq20, e20⟩ := hQ20
  have N20 := Fr.app N19 Nq20
  refine own_goT st20 ?_
  show ∃ t o, Steps p.tables e below (T20.setTop (mkF m 47 #[.val (.ref so), .val (.int (1 : Int32))] [(.int (2 : Int32)), (.int (1 : Int32))])) t ∧ _
  refine own_go (fun _ => XS.icmpNo X20.here hx rfl (hb hby d8_47) rfl (tlt (by decide : (1 : Int32) < (2 : Int32))).2.1) ?_
  refine own_go (fun _ => XS.aloadN X20.here hx rfl (hb hby d8_50) rfl rfl) ?_
  refine own_go (fun _ => XS.iloadN X20.here hx rfl (hb hby d8_51) rfl) ?_
  show ∃ t o, Steps p.tables e below (T20.setTop (mkF m 52 #[.val (.ref so), .val (.int (1 : Int32))] [(.int (1 : Int32)), (.ref so)])) t ∧ _
  obtain ⟨cq21, kq21, q21a, q21b, q21c⟩ := isOf hZ e20 F11
  obtain ⟨_, _, ⟨T21, L21, k21, n21⟩, -, X21, ⟨Lc21, hQ21, l21, y21, z21⟩, st21⟩ := X20.virtualBack hx (y := (⟨"java/lang/String", "charAt", "(I)C"⟩ : MethodName)) (z := (⟨"java/lang/String", "charAt", "(I)C"⟩ : MethodName)) hown (mvT hZ (hw _ (List.mem_of_getElem? (i := 61) rfl))) (mvT hZ (hw _ (List.mem_of_getElem? (i := 62) rfl))) (notFace_of_selects (args := #[]) (mvT hZ (hw _ (List.mem_of_getElem? (i := 64) rfl)))) (mvT hZ (hw _ (List.mem_of_getElem? (i := 64) rfl))) (mvT hZ (hw _ (List.mem_of_getElem? (i := 63) rfl))) (by decide) (backOf (W := 0) (rmCh2_1 l Z a0 hw [] so tb kb c0 c1 zc gv h7 n0 zl9 F11 F12 F13 F14 F8 P5 P6 hzc hgv (own_okrg ok1 : own_rg c1)) hZ (hw _ (List.mem_of_getElem? (i := 65) rfl)) (hw _ (List.mem_of_getElem? (i := 7) rfl)) (by decide) (by decide)) q21a q21c (g := (mkF m 52 #[.val (.ref so), .val (.int (1 : Int32))] [(.int (1 : Int32)), (.ref so)])) rfl (by rw [hml]; rfl) (Steps.refl _) (argsL := [(.int (1 : Int32))]) (rest := []) (lenOf pd__28I_29C rfl) rfl (by show 2 * 0 + _ ≤ _; exact Nat.le_of_eq rfl) (hb hby d8_52) (fun _ _ => ⟨rfl, e20, (by decide : 2 + 0 ≤ _), (by decide : 20 + 0 ≤ _)⟩)
  dsimp only [Pt.U, Pt.locs, Pt.cells, Pt.slots] at X21 l21 y21 z21 st21 hQ21
  subst l21 y21 z21
  obtain ⟨rfl, Nq21, e21⟩ := hQ21
  have N21 := Fr.app N20 Nq21
  refine own_goT st21 ?_
  show ∃ t o, Steps p.tables e below (T21.setTop (mkF m 55 #[.val (.ref so), .val (.int (1 : Int32))] [(.int c1)])) t ∧ _
  obtain ⟨_, _, ⟨T22, L22, k22, n22⟩, -, X22, ⟨Lc22, hQ22, l22, y22, z22⟩, st22⟩ := Jvm.LawKit.callS X21 hx (y := (⟨"com/example/libtardy/libtardy/QueueName", "isAllowed", "(C)Z"⟩ : MethodName)) hown (mvT hZ (hw _ (List.mem_of_getElem? (i := 83) rfl))) (mvT hZ (hw _ (List.mem_of_getElem? (i := 84) rfl))) (mvT hZ (hw _ (List.mem_of_getElem? (i := 37) rfl))) (mvT hZ (hw _ (List.mem_of_getElem? (i := 85) rfl))) (by decide) (backOf (W := 0) (rmIs l Z a0 hw [] c1 h7 n0 zl9 F8 (ok1 : own_ok c1)) hZ (hw _ (List.mem_of_getElem? (i := 85) rfl)) (hw _ (List.mem_of_getElem? (i := 37) rfl)) (by decide) (by decide)) (g := (mkF m 55 #[.val (.ref so), .val (.int (1 : Int32))] [(.int c1)])) rfl (by rw [hml]; rfl) (argsL := [(.int c1)]) (rest := []) (lenOf pd__28C_29Z rfl) rfl (by show 2 * 0 + _ ≤ _; exact Nat.le_of_eq rfl) (hb hby d8_55) (fun _ _ => ⟨rfl, e21, (by decide : 2 + 0 ≤ _), (by decide : 20 + 0 ≤ _)⟩)
  dsimp only [Pt.U, Pt.locs, Pt.cells, Pt.slots] at X22 l22 y22 z22 st22 hQ22
  subst l22 y22 z22
  obtain ⟨rfl, Nq22, e22⟩ := hQ22
  have N22 := Fr.app N21 Nq22
  refine own_go st22 ?_
  show ∃ t o, Steps p.tables e below (T22.setTop (mkF m 58 #[.val (.ref so), .val (.int (1 : Int32))] [(.int (1 : Int32))])) t ∧ _
  refine own_go (fun _ => XS.ifYes X22.here hx rfl (pc0 := 58) (pc' := 96) rfl (hb hby d8_58) rfl ((if0 _ _).trans (feq (by decide : ¬ ((1 : Int32) = (0 : Int32)))).2) (by decide) (by decide)) ?_
  refine own_go (fun _ => XS.iinc X22.here hx rfl (hb hby d8_96) rfl (l' := #[.val (.ref so), .val (.int (2 : Int32))]) rfl) ?_
  refine own_go (fun _ => XS.goto X22.here hx rfl (pc0 := 99) (pc' := 42) rfl (hb hby d8_99) (by decide) (by decide)) ?_
  show ∃ t o, Steps p.tables e below (T22.setTop (mkF m 42 #[.val (.ref so), .val (.int (2 : Int32))] [])) t ∧ _
  refine own_go (fun _ => XS.iloadN X22.here hx rfl (hb hby d8_42) rfl) ?_
  refine own_go (fun _ => XS.aloadN X22.here hx rfl (hb hby d8_43) rfl rfl) ?_
  show ∃ t o, Steps p.tables e below (T22.setTop (mkF m 44 #[.val (.ref so), .val (.int (2 : Int32))] [(.ref so), (.int (2 : Int32))])) t ∧ _
  obtain ⟨cq23, kq23, q23a, q23b, q23c⟩ := isOf hZ e22 F11
  obtain ⟨_, _, ⟨T23, L23, k23, n23⟩, -, X23, ⟨Lc23, hQ23, l23, y23, z23⟩, st23⟩ := X22.virtualBack hx (y := (⟨"java/lang/String", "length", "()I"⟩ : MethodName)) (z := (⟨"java/lang/String", "length", "()I"⟩ : MethodName)) hown (mvT hZ (hw _ (List.mem_of_getElem? (i := 51) rfl))) (mvT hZ (hw _ (List.mem_of_getElem? (i := 52) rfl))) (notFace_of_selects (args := #[]) (mvT hZ (hw _ (List.mem_of_getElem? (i := 54) rfl)))) (mvT hZ (hw _ (List.mem_of_getElem? (i := 54) rfl))) (mvT hZ (hw _ (List.mem_of_getElem? (i := 53) rfl))) (by decide) (backOf (W := 1) (rmLen2 l Z a0 hw [] so tb kb c0 c1 zc h7 n0 zl9 F11 F12 F13 F14 F8 P5 hzc) hZ (hw _ (List.mem_of_getElem? (i := 55) rfl)) (hw _ (List.mem_of_getElem? (i := 7) rfl)) (by decide) (by decide)) q23a q23c (g := (mkF m 44 #[.val (.ref so), .val (.int (2 : Int32))] [(.ref so), (.int (2 : Int32))])) rfl (by rw [hml]; rfl) (Steps.refl _) (argsL := []) (rest := [(.int (2 : Int32))]) (lenOf pd__28_29I rfl) rfl (by show 2 * 0 + _ ≤ _; exact Nat.le_of_eq rfl) (hb hby d8_44) (fun _ _ => ⟨rfl, e22, (by decide : 2 + 0 ≤ _), (by decide : 20 + 0 ≤ _)⟩)
  dsimp only [Pt.U, Pt.locs, Pt.cells, Pt.slots] at X23 l23 y23 z23 st23 hQ23
  subst l23 y23 z23
  obtain ⟨rfl, Nq23, e23⟩ := hQ23
  have N23 := Fr.app N22 Nq23
  refine own_goT st23 ?_
  show ∃ t o, Steps p.tables e below (T23.setTop (mkF m 47 #[.val (.ref so), .val (.int (2 : Int32))] [(.int (2 : Int32)), (.int (2 : Int32))])) t ∧ _
  refine own_go (fun _ => XS.icmpYes X23.here hx rfl (pc0 := 47) (pc' := 102) rfl (hb hby d8_47) rfl (flt (by decide : ¬ ((2 : Int32) < (2 : Int32)))).2.1 (by decide) (by decide)) ?_
  show ∃ t o, Steps p.tables e below (T23.setTop (mkF m 102 #[.val (.ref so), .val (.int (2 : Int32))] [])) t ∧ _
  obtain ⟨T24, h24, X24, e24, E24, A24, D24, -, st24⟩ := newO X23 hx hZ hown (hw _ (List.mem_of_getElem? (i := 86) rfl)) (hw _ (List.mem_of_getElem? (i := 87) rfl)) (hw _ (List.mem_of_getElem? (i := 37) rfl)) e23 (g := (mkF m 102 #[.val (.ref so), .val (.int (2 : Int32))] [])) rfl (hb hby d8_102) (by decide) (by decide)
  obtain ⟨b24, g24⟩ : ∃ z, z = h7.size := ⟨_, rfl⟩
  rw [← g24] at A24 D24 st24
  refine own_go st24 ?_
  have le_24 : h7.size ≤ h24.size := E24.1
  have lt_b24 : b24 < h24.size := A24.lt
  have F_name_b24 : Fld Z h24 b24 "com/example/libtardy/libtardy/QueueName" "name" "Ljava/lang/String;" .null := D24 (Or.inr (hw _ (List.mem_of_getElem? (i := 93) rfl))) (ty := (.object "java/lang/String")) (by decide)
  have K24 : Keep h0 h24 [] := Keep.ext K7 E24
  refine own_go (fun _ => XS.dup X24.here hx rfl (hb hby d8_105) rfl rfl) ?_
  refine own_go (fun _ => XS.aloadN X24.here hx rfl (hb hby d8_106) rfl rfl) ?_
  show ∃ t o, Steps p.tables e below (T24.setTop (mkF m 107 #[.val (.ref so), .val (.int (2 : Int32))] [(.ref so), (.ref b24), (.ref b24)])) t ∧ _
  have F25 : Old Z n0 h24 := (F8.ext E24)
  have ge26 : n0 ≤ b24 := by omega
  have zl27 : n0 ≤ h24.size := by omega
  obtain ⟨_, _, ⟨T28, L28, k28, n28⟩, -, X28, ⟨Lc28, hQ28, l28, y28, z28⟩, st28⟩ := X24.specialBack hx (y := (⟨"com/example/libtardy/libtardy/QueueName", "<init>", "(Ljava/lang/String;)V"⟩ : MethodName)) rfl hown (mvT hZ (hw _ (List.mem_of_getElem? (i := 88) rfl))) (mvT hZ (hw _ (List.mem_of_getElem? (i := 89) rfl))) (mvT hZ (hw _ (List.mem_of_getElem? (i := 90) rfl))) (by decide) (backOf (W := 1) (rmInit l Z a0 hw [] b24 so h24 n0 zl27 A24 F_name_b24 F25 ge26) hZ (hw _ (List.mem_of_getElem? (i := 90) rfl)) (hw _ (List.mem_of_getElem? (i := 37) rfl)) (by decide) (by decide)) (g := (mkF m 107 #[.val (.ref so), .val (.int (2 : Int32))] [(.ref so), (.ref b24), (.ref b24)])) rfl (by rw [hml]; rfl) (Steps.refl _) (a := b24) (argsL := [(.ref so)]) (rest := [(.ref b24)]) (lenOf pd__28Ljava_2flang_2fString_3b_29V rfl) rfl (by show 2 * 0 + _ ≤ _; exact Nat.le_of_eq rfl) (hb hby d8_107) (fun _ _ => ⟨rfl, e24, (by decide : 3 + 0 ≤ _), (by decide : 21 + 0 ≤ _)⟩)
  dsimp only [Pt.U, Pt.locs, Pt.cells, Pt.slots] at X28 l28 y28 z28 st28 hQ28
  subst l28 y28 z28
  obtain ⟨rfl, Nq28, Kp28, G28_0, G28_1⟩ := hQ28
  have N28 := Fr.app N23 Nq28
  refine own_goT st28 ?_
  have le_28 : h24.size ≤ T28.heap.size := Kp28.1
  have sz29 : h0.size ≤ b24 := by omega
  have K28 : Keep h0 T28.heap [] := Keep.trans K24 Kp28 (allS (Or.inr sz29) all0)
  show ∃ t o, Steps p.tables e below (T28.setTop (mkF m 110 #[.val (.ref so), .val (.int (2 : Int32))] [(.ref b24)])) t ∧ _
  obtain ⟨fs, hr, hrun, hended, hW⟩ := Jvm.Stand.leaveW X28 hS (by omega) (v := some (.ref b24)) (fun h => by rw [Bd.returns] at h; cases h)
  refine ⟨_, _, ?_, hrun, hended, _, _, rfl, ?_, ⟨hW.1, hW.2.1, hW.2.2.1, hW.2.2.2.mono (by decide) (by decide)⟩⟩
  · jvm_step X28.here [X28.here.top, hx, (hb hby d8_110), X28.method', Bd.returns, Value.isRef, FieldType.isReference]
    first | (intro acts; rw [hr _ acts rfl rfl rfl]) | rw [hr _ _ rfl rfl rfl]
    exact Steps.refl _
  · show Q_rmOf2 Z _ _ _ _ _ _ _ h0 n0 _ T28.heap _
    exact ⟨b24, rfl, N28, K28, G28_0, G28_1⟩
theorem ef_rmLen3 (m : MethodId) (x0 : Nat) : entryFrame m #[(.ref x0)] 1 = mkF m 0 #[.val (.ref x0)] [] := by first | (simp [entryFrame, mkF, argsToLocals, Value.category]; done) | rfl
def Q_rmLen3 (Z : State) (so : Nat) (tb : Nat) (kb : ClassId) (c0 : Int32) (c1 : Int32) (c2 : Int32) (zc : Int32) (h0 : Heap) (n0 : Nat) (v : Option Value) (h : Heap) (L : List Loc) : Prop := v = some (.int (3 : Int32)) ∧ Fr n0 L ∧ h = h0
set_option maxRecDepth 65536 in
set_option maxHeartbeats 40000000 in
theorem rmLen3 (l : Launch) (Z : State) (a0 : Array Value) (hw : ∀ d ∈ tables_1, d.before a0 Z = true) (ws : List Jvm.Cond) (so : Nat) (tb : Nat) (kb : ClassId) (c0 : Int32) (c1 : Int32) (c2 : Int32) (zc : Int32) (h0 : Heap) (n0 : Nat) (Z0 : n0 ≤ h0.size) (P1 : Exa Z h0 so "java/lang/String") (P2 : Fld Z h0 so "java/lang/String" "value" "[B" (.ref tb)) (P3 : Fld Z h0 so "java/lang/String" "coder" "B" (.int (0 : Int32))) (P4 : Arv Z h0 tb kb .byte (3 : Int32) [(.int (c0.toInt8.toInt32)), (.int (c1.toInt8.toInt32)), (.int (c2.toInt8.toInt32))] (.int (0 : Int32))) (OLD : Old Z n0 h0) (P5 : Sta Z Z.heap "java/lang/String" "COMPACT_STRINGS" "Z" (.int zc)) (hzc : ¬ (zc = (0 : Int32))) :
    MetFree l (⟨"java/lang/String", "length", "()I"⟩ : MethodName) (head1 (Jvm.Cond.code (⟨"java/lang/String", "length", "()I"⟩ : MethodName) jdk_42_method_54_code 1 (some .int) :: ws) ({ frames := 1, cells := 0, slots := 0, locals := 13 } : Room)) (fun a U => a = #[(.ref so)] ∧ Z.Warmed39 U.vm ∧ U.heap = h0) (fun _ _ _ _ _ => True) (fun _ U o U' => ∃ v L, o = .returned v ∧ Q_rmLen3 Z so tb kb c0 c1 c2 zc h0 n0 v U'.heap L ∧ FrameEnd U o U' L ({ frames := 1, cells := 0, slots := 0, locals := 13 } : Room).cells ({ frames := 1, cells := 0, slots := 0, locals := 13 } : Room).slots) := by
  refine MetFree.of_bodySF (plainFor_of_name pn_java_lang_String) hisR ?_
  intro p e s m args below meth c s₁ Bd hml0 hP hK
  obtain ⟨rfl, hZ, hh⟩ := hP
  have hx := Bd.exec
  have hby := Bd.bytes
  have hml : c.maxLocals = 1 := hml0
  have hown : s.vm.findClass "java/lang/String" = some m.cls := findClass_of_methodNamed Bd.named
  have hnm := (name_of_methodNamed Bd.named Bd.method).1
  have X0 : Stand p l e ({ frames := 1, cells := 0, slots := 0, locals := 13 } : Room) s m #[(.ref so)] below meth c s₁ [] 0 0 := Stand.of_body Bd
  have e0 : s₁.heap = h0 := by rw [← hh, Bd.state]; rfl
  have N0 := Fr.nil n0
  have pre0 : ∀ t, Steps p.tables e below (s₁.setTop (mkF m 0 #[.val (.ref so)] [])) t → Steps p.tables e below (s₁.setTop (entryFrame m #[(.ref so)] 1)) t := fun t k => castTop (ef_rmLen3 m so) k
  have oz := OLD.1
  have lt_so : so < h0.size := P1.lt
  have lt_tb : tb < h0.size := P4.lt
  refine own_go (B := s₁.setTop (mkF m 0 #[.val (.ref so)] [])) pre0 ?_
  show ∃ t o, Steps p.tables e below (s₁.setTop (mkF m 0 #[.val (.ref so)] [])) t ∧ _
  refine own_go (fun _ => XS.aloadN X0.here hx rfl (hb hby d11_0) rfl rfl) ?_
  obtain ⟨T6, X6, e6, st6⟩ := getF X0 hx hZ hown (host := "") (Or.inl (hw _ (List.mem_of_getElem? (i := 33) rfl))) Via.refl e0 P2 (g := (mkF m 1 #[.val (.ref so)] [(.ref so)])) rfl rfl (hb hby d11_1)
  refine own_go st6 ?_
  obtain ⟨cl7, Ar7, q7, S7, N7, H7, G7⟩ := id P4
  have ln7 : cl7.slots.size.toInt32 = (3 : Int32) := len_of S7 N7
  have al7 := X6.arraylength hx (by rw [e6]; exact Ar7.1) (State.isArrayOf_alike hZ.alike Ar7.2.1) (g := (mkF m 4 #[.val (.ref so)] [(.ref tb)])) rfl rfl (hb hby d11_4)
  rw [ln7] at al7
  refine own_go al7 ?_
  show ∃ t o, Steps p.tables e below (T6.setTop (mkF m 5 #[.val (.ref so)] [(.int (3 : Int32))])) t ∧ _
  refine own_go (fun _ => XS.aloadN X6.here hx rfl (hb hby d11_5) rfl rfl) ?_
  show ∃ t o, Steps p.tables e below (T6.setTop (mkF m 6 #[.val (.ref so)] [(.ref so), (.int (3 : Int32))])) t ∧ _
  obtain ⟨cq8, kq8, q8a, q8b, q8c⟩ := isOf hZ e6 P1
  obtain ⟨_, _, ⟨T8, L8, k8, n8⟩, -, X8, ⟨Lc8, hQ8, l8, y8, z8⟩, st8⟩ := X6.virtualBack hx (y := (⟨"java/lang/String", "coder", "()B"⟩ : MethodName)) (z := (⟨"java/lang/String", "coder", "()B"⟩ : MethodName)) hown (mvT hZ (hw _ (List.mem_of_getElem? (i := 56) rfl))) (mvT hZ (hw _ (List.mem_of_getElem? (i := 57) rfl))) (notFace_of_selects (args := #[]) (mvT hZ (hw _ (List.mem_of_getElem? (i := 59) rfl)))) (mvT hZ (hw _ (List.mem_of_getElem? (i := 59) rfl))) (mvT hZ (hw _ (List.mem_of_getElem? (i := 58) rfl))) (by decide) (backOf (W := 1) (rmCoder l Z a0 hw [] so zc h0 n0 Z0 P3 OLD P5 hzc) hZ (hw _ (List.mem_of_getElem? (i := 60) rfl)) (hw _ (List.mem_of_getElem? (i := 7) rfl)) (by decide) (by decide)) q8a q8c (g := (mkF m 6 #[.val (.ref so)] [(.ref so), (.int (3 : Int32))])) rfl (by rw [hml]; rfl) (Steps.refl _) (argsL := []) (rest := [(.int (3 : Int32))]) (lenOf pd__28_29B rfl) rfl (by show 2 * 0 + _ ≤ _; exact Nat.le_of_eq rfl) (hb hby d11_6) (fun _ _ => ⟨rfl, e6, (by decide : 0 + 0 ≤ _), (by decide : 0 + 0 ≤ _)⟩)
  dsimp only [Pt.U, Pt.locs, Pt.cells, Pt.slots] at X8 l8 y8 z8 st8 hQ8
  subst l8 y8 z8
  obtain ⟨rfl, Nq8, e8⟩ := hQ8
  have N8 := Fr.app N0 Nq8
  refine own_goT st8 ?_
  refine own_go (fun _ => XS.ishr X8.here hx rfl (hb hby d11_9) rfl) ?_
  show ∃ t o, Steps p.tables e below (T8.setTop (mkF m 10 #[.val (.ref so)] [(.int (3 : Int32))])) t ∧ _
  obtain ⟨fs, hr, hrun, hended, hW, hsame⟩ := X8.leave (v := some (.int (3 : Int32))) (fun h => by rw [Bd.returns] at h; cases h)
  refine ⟨_, _, ?_, hrun, hended, _, _, rfl, ?_, ⟨_, rfl⟩, hW, hsame.mono (by decide) (by decide)⟩
  · exact retI X8 hx Bd.returns (hb hby d11_10) hr
  · show Q_rmLen3 Z _ _ _ _ _ _ _ h0 n0 _ T8.heap _
    rw [e8]
    exact ⟨rfl, N8, rfl⟩
theorem ef_rmEmp3 (m : MethodId) (x0 : Nat) : entryFrame m #[(.ref x0)] 1 = mkF m 0 #[.val (.ref x0)] [] := by first | (simp [entryFrame, mkF, argsToLocals, Value.category]; done) | rfl
def Q_rmEmp3 (Z : State) (so : Nat) (tb : Nat) (kb : ClassId) (c0 : Int32) (c1 : Int32) (c2 : Int32) (h0 : Heap) (n0 : Nat) (v : Option Value) (h : Heap) (L : List Loc) : Prop := v = some (.int (0 : Int32)) ∧ Fr n0 L ∧ h = h0
set_option maxRecDepth 65536 in
set_option maxHeartbeats 40000000 in
theorem rmEmp3 (l : Launch) (Z : State) (a0 : Array Value) (hw : ∀ d ∈ tables_1, d.before a0 Z = true) (ws : List Jvm.Cond) (so : Nat) (tb : Nat) (kb : ClassId) (c0 : Int32) (c1 : Int32) (c2 : Int32) (h0 : Heap) (n0 : Nat) (Z0 : n0 ≤ h0.size) (P1 : Exa Z h0 so "java/lang/String") (P2 : Fld Z h0 so "java/lang/String" "value" "[B" (.ref tb)) (P3 : Fld Z h0 so "java/lang/String" "coder" "B" (.int (0 : Int32))) (P4 : Arv Z h0 tb kb .byte (3 : Int32) [(.int (c0.toInt8.toInt32)), (.int (c1.toInt8.toInt32)), (.int (c2.toInt8.toInt32))] (.int (0 : Int32))) (OLD : Old Z n0 h0) :
    MetFree l (⟨"java/lang/String", "isEmpty", "()Z"⟩ : MethodName) (head1 (Jvm.Cond.code (⟨"java/lang/String", "isEmpty", "()Z"⟩ : MethodName) jdk_42_method_55_code 1 (some .boolean) :: ws) ({ frames := 0, cells := 0, slots := 0, locals := 0 } : Room)) (fun a U => a = #[(.ref so)] ∧ Z.Warmed39 U.vm ∧ U.heap = h0) (fun _ _ _ _ _ => True) (fun _ U o U' => ∃ v L, o = .returned v ∧ Q_rmEmp3 Z so tb kb c0 c1 c2 h0 n0 v U'.heap L ∧ FrameEnd U o U' L ({ frames := 0, cells := 0, slots := 0, locals := 0 } : Room).cells ({ frames := 0, cells := 0, slots := 0, locals := 0 } : Room).slots) := by
  refine MetFree.of_bodySF (plainFor_of_name pn_java_lang_String) hisR ?_
  intro p e s m args below meth c s₁ Bd hml0 hP hK
  obtain ⟨rfl, hZ, hh⟩ := hP
  have hx := Bd.exec
  have hby := Bd.bytes
  have hml : c.maxLocals = 1 := hml0
  have hown : s.vm.findClass "java/lang/String" = some m.cls := findClass_of_methodNamed Bd.named
  have hnm := (name_of_methodNamed Bd.named Bd.method).1
  have X0 : Stand p l e ({ frames := 0, cells := 0, slots := 0, locals := 0 } : Room) s m #[(.ref so)] below meth c s₁ [] 0 0 := Stand.of_body Bd
  have e0 : s₁.heap = h0 := by rw [← hh, Bd.state]; rfl
  have N0 := Fr.nil n0
  have pre0 : ∀ t, Steps p.tables e below (s₁.setTop (mkF m 0 #[.val (.ref so)] [])) t → Steps p.tables e below (s₁.setTop (entryFrame m #[(.ref so)] 1)) t := fun t k => castTop (ef_rmEmp3 m so) k
  have oz := OLD.1
  have lt_so : so < h0.size := P1.lt
  have lt_tb : tb < h0.size := P4.lt
  refine own_go (B := s₁.setTop (mkF m 0 #[.val (.ref so)] [])) pre0 ?_
  show ∃ t o, Steps p.tables e below (s₁.setTop (mkF m 0 #[.val (.ref so)] [])) t ∧ _
  refine own_go (fun _ => XS.aloadN X0.here hx rfl (hb hby d10_0) rfl rfl) ?_
  obtain ⟨T5, X5, e5, st5⟩ := getF X0 hx hZ hown (host := "") (Or.inl (hw _ (List.mem_of_getElem? (i := 33) rfl))) Via.refl e0 P2 (g := (mkF m 1 #[.val (.ref so)] [(.ref so)])) rfl rfl (hb hby d10_1)
  refine own_go st5 ?_
  obtain ⟨cl6, Ar6, q6, S6, N6, H6, G6⟩ := id P4
  have ln6 : cl6.slots.size.toInt32 = (3 : Int32) := len_of S6 N6
  have al6 := X5.arraylength hx (by rw [e5]; exact Ar6.1) (State.isArrayOf_alike hZ.alike Ar6.2.1) (g := (mkF m 4 #[.val (.ref so)] [(.ref tb)])) rfl rfl (hb hby d10_4)
  rw [ln6] at al6
  refine own_go al6 ?_
  show ∃ t o, Steps p.tables e below (T5.setTop (mkF m 5 #[.val (.ref so)] [(.int (3 : Int32))])) t ∧ _
  refine own_go (fun _ => XS.ifYes X5.here hx rfl (pc0 := 5) (pc' := 12) rfl (hb hby d10_5) rfl ((if0 _ _).trans (feq (by decide : ¬ ((3 : Int32) = (0 : Int32)))).2) (by decide) (by decide)) ?_
  refine own_go (fun _ => XS.iconst X5.here hx rfl (hb hby d10_12)) ?_
  show ∃ t o, Steps p.tables e below (T5.setTop (mkF m 13 #[.val (.ref so)] [(.int (0 : Int32))])) t ∧ _
  obtain ⟨fs, hr, hrun, hended, hW, hsame⟩ := X5.leave (v := some (.int (0 : Int32))) (fun h => by rw [Bd.returns] at h; cases h)
  refine ⟨_, _, ?_, hrun, hended, _, _, rfl, ?_, ⟨_, rfl⟩, hW, hsame.mono (by decide) (by decide)⟩
  · exact retN X5 hx (t := .boolean) Bd.returns (by simp) (hb hby d10_13) hr
  · show Q_rmEmp3 Z _ _ _ _ _ _ h0 n0 _ T5.heap _
    rw [e5]
    exact ⟨rfl, N0, rfl⟩
theorem ef_rmLch3_0 (m : MethodId) (x0 : Nat) (x1 : Int32) : entryFrame m #[(.ref x0), (.int x1)] 2 = mkF m 0 #[.val (.ref x0), .val (.int x1)] [] := by first | (simp [entryFrame, mkF, argsToLocals, Value.category]; done) | rfl
def Q_rmLch3_0 (Z : State) (tb : Nat) (kb : ClassId) (c0 : Int32) (c1 : Int32) (c2 : Int32) (gv : Value) (h0 : Heap) (n0 : Nat) (v : Option Value) (h : Heap) (L : List Loc) : Prop := v = some (.int c0) ∧ Fr n0 L ∧ h = h0
set_option maxRecDepth 65536 in
set_option maxHeartbeats 40000000 in
theorem rmLch3_0 (l : Launch) (Z : State) (a0 : Array Value) (hw : ∀ d ∈ tables_1, d.before a0 Z = true) (ws : List Jvm.Cond) (tb : Nat) (kb : ClassId) (c0 : Int32) (c1 : Int32) (c2 : Int32) (gv : Value) (h0 : Heap) (n0 : Nat) (Z0 : n0 ≤ h0.size) (P1 : Arv Z h0 tb kb .byte (3 : Int32) [(.int (c0.toInt8.toInt32)), (.int (c1.toInt8.toInt32)), (.int (c2.toInt8.toInt32))] (.int (0 : Int32))) (OLD : Old Z n0 h0) (P2 : Sta Z Z.heap "jdk/internal/util/Preconditions" "SIOOBE_FORMATTER" "Ljava/util/function/BiFunction;" gv) (hrg : own_rg c0) (hgv : gv.isRef = true) :
    MetFree l (⟨"java/lang/StringLatin1", "charAt", "([BI)C"⟩ : MethodName) (head1 (Jvm.Cond.code (⟨"java/lang/StringLatin1", "charAt", "([BI)C"⟩ : MethodName) jdk_43_method_2_code 2 (some .char) :: ws) ({ frames := 2, cells := 0, slots := 0, locals := 27 } : Room)) (fun a U => a = #[(.ref tb), (.int (0 : Int32))] ∧ Z.Warmed39 U.vm ∧ U.heap = h0) (fun _ _ _ _ _ => True) (fun _ U o U' => ∃ v L, o = .returned v ∧ Q_rmLch3_0 Z tb kb c0 c1 c2 gv h0 n0 v U'.heap L ∧ FrameEnd U o U' L ({ frames := 2, cells := 0, slots := 0, locals := 27 } : Room).cells ({ frames := 2, cells := 0, slots := 0, locals := 27 } : Room).slots) := by
  refine MetFree.of_bodySF (plainFor_of_name pn_java_lang_StringLatin1) hisR ?_
  intro p e s m args below meth c s₁ Bd hml0 hP hK
  obtain ⟨rfl, hZ, hh⟩ := hP
  have hx := Bd.exec
  have hby := Bd.bytes
  have hml : c.maxLocals = 2 := hml0
  have hown : s.vm.findClass "java/lang/StringLatin1" = some m.cls := findClass_of_methodNamed Bd.named
  have hnm := (name_of_methodNamed Bd.named Bd.method).1
  have X0 : Stand p l e ({ frames := 2, cells := 0, slots := 0, locals := 27 } : Room) s m #[(.ref tb), (.int (0 : Int32))] below meth c s₁ [] 0 0 := Stand.of_body Bd
  have e0 : s₁.heap = h0 := by rw [← hh, Bd.state]; rfl
  have N0 := Fr.nil n0
  have pre0 : ∀ t, Steps p.tables e below (s₁.setTop (mkF m 0 #[.val (.ref tb), .val (.int (0 : Int32))] [])) t → Steps p.tables e below (s₁.setTop (entryFrame m #[(.ref tb), (.int (0 : Int32))] 2)) t := fun t k => castTop (ef_rmLch3_0 m tb (0 : Int32)) k
  have oz := OLD.1
  have lt_tb : tb < h0.size := P1.lt
  refine own_go (B := s₁.setTop (mkF m 0 #[.val (.ref tb), .val (.int (0 : Int32))] [])) pre0 ?_
  show ∃ t o, Steps p.tables e below (s₁.setTop (mkF m 0 #[.val (.ref tb), .val (.int (0 : Int32))] [])) t ∧ _
  refine own_go (fun _ => XS.iloadN X0.here hx rfl (hb hby d15_0) rfl) ?_
  refine own_go (fun _ => XS.aloadN X0.here hx rfl (hb hby d15_1) rfl rfl) ?_
  obtain ⟨cl3, Ar3, q3, S3, N3, H3, G3⟩ := id P1
  have ln3 : cl3.slots.size.toInt32 = (3 : Int32) := len_of S3 N3
  have al3 := X0.arraylength hx (by rw [e0]; exact Ar3.1) (State.isArrayOf_alike hZ.alike Ar3.2.1) (g := (mkF m 2 #[.val (.ref tb), .val (.int (0 : Int32))] [(.ref tb), (.int (0 : Int32))])) rfl rfl (hb hby d15_2)
  rw [ln3] at al3
  refine own_go al3 ?_
  show ∃ t o, Steps p.tables e below (s₁.setTop (mkF m 3 #[.val (.ref tb), .val (.int (0 : Int32))] [(.int (3 : Int32)), (.int (0 : Int32))])) t ∧ _
  obtain ⟨_, _, ⟨T4, L4, k4, n4⟩, -, X4, ⟨Lc4, hQ4, l4, y4, z4⟩, st4⟩ := Jvm.LawKit.callS X0 hx (y := (⟨"java/lang/String", "checkIndex", "(II)V"⟩ : MethodName)) hown (mvT hZ (hw _ (List.mem_of_getElem? (i := 75) rfl))) (mvT hZ (hw _ (List.mem_of_getElem? (i := 76) rfl))) (mvT hZ (hw _ (List.mem_of_getElem? (i := 7) rfl))) (mvT hZ (hw _ (List.mem_of_getElem? (i := 77) rfl))) (by decide) (backOf (W := 0) (rmCi l Z a0 hw [] (0 : Int32) (3 : Int32) gv h0 n0 Z0 OLD P2 hgv (by decide) (by decide)) hZ (hw _ (List.mem_of_getElem? (i := 77) rfl)) (hw _ (List.mem_of_getElem? (i := 7) rfl)) (by decide) (by decide)) (g := (mkF m 3 #[.val (.ref tb), .val (.int (0 : Int32))] [(.int (3 : Int32)), (.int (0 : Int32))])) rfl (by rw [hml]; rfl) (argsL := [(.int (0 : Int32)), (.int (3 : Int32))]) (rest := []) (lenOf pd__28II_29V rfl) rfl (by show 2 * 0 + _ ≤ _; exact Nat.le_of_eq rfl) (hb hby d15_3) (fun _ _ => ⟨rfl, e0, (by decide : 0 + 0 ≤ _), (by decide : 0 + 0 ≤ _)⟩)
  dsimp only [Pt.U, Pt.locs, Pt.cells, Pt.slots] at X4 l4 y4 z4 st4 hQ4
  subst l4 y4 z4
  obtain ⟨rfl, Nq4, e4⟩ := hQ4
  have N4 := Fr.app N0 Nq4
  refine own_go st4 ?_
  refine own_go (fun _ => XS.aloadN X4.here hx rfl (hb hby d15_6) rfl rfl) ?_
  refine own_go (fun _ => XS.iloadN X4.here hx rfl (hb hby d15_7) rfl) ?_
  show ∃ t o, Steps p.tables e below (T4.setTop (mkF m 8 #[.val (.ref tb), .val (.int (0 : Int32))] [(.int (0 : Int32)), (.ref tb)])) t ∧ _
  obtain ⟨cl5, Ar5, q5, S5, N5, H5, G5⟩ := id P1
  have hin5 : ¬ ((0 : Int32) < 0 ∨ cl5.slots.size ≤ ((0 : Int32)).toNatClampNeg) := inb_of S5 ⟨by decide, by decide⟩
  have hat5 : cl5.slots[((0 : Int32)).toNatClampNeg]? = some (.int (c0.toInt8.toInt32)) := Has.at H5 hin5 rfl
  refine own_go (fun _ => X4.baloadBytes hx (j := (0 : Int32)) (v := (.int (c0.toInt8.toInt32))) (by rw [e4]; exact Ar5.1) (State.isArrayOf_alike hZ.alike Ar5.2.1) Ar5.2.2 hin5 hat5 (g := (mkF m 8 #[.val (.ref tb), .val (.int (0 : Int32))] [(.int (0 : Int32)), (.ref tb)])) rfl rfl (hb hby d15_8) _) ?_
  refine own_go (fun _ => XS.sipush X4.here hx rfl (hb hby d15_9)) ?_
  refine own_go (fun _ => XS.iand X4.here hx rfl (hb hby d15_12) rfl) ?_
  show ∃ t o, Steps p.tables e below (T4.setTop (mkF m 13 #[.val (.ref tb), .val (.int (0 : Int32))] [(.int ((c0.toInt8.toInt32) &&& (255 : Int32)))])) t ∧ _
  refine own_go (fun _ => XS.i2c X4.here hx rfl (hb hby d15_13) rfl) ?_
  show ∃ t o, Steps p.tables e below (T4.setTop (mkF m 14 #[.val (.ref tb), .val (.int (0 : Int32))] [(.int (((c0.toInt8.toInt32) &&& (255 : Int32)).toUInt32.toUInt16.toUInt32.toInt32))])) t ∧ _
  obtain ⟨fs, hr, hrun, hended, hW, hsame⟩ := X4.leave (v := some (.int (nar .char (((c0.toInt8.toInt32) &&& (255 : Int32)).toUInt32.toUInt16.toUInt32.toInt32)))) (fun h => by rw [Bd.returns] at h; cases h)
  refine ⟨_, _, ?_, hrun, hended, _, _, rfl, ?_, ⟨_, rfl⟩, hW, hsame.mono (by decide) (by decide)⟩
  · exact retN X4 hx (t := .char) Bd.returns (by simp) (hb hby d15_14) hr
  · show Q_rmLch3_0 Z _ _ _ _ _ _ h0 n0 _ T4.heap _
    rw [e4]
    exact ⟨(congrArg (fun z => some (Value.int z)) (own_back hrg)), N4, rfl⟩
theorem ef_rmCh3_0 (m : MethodId) (x0 : Nat) (x1 : Int32) : entryFrame m #[(.ref x0), (.int x1)] 2 = mkF m 0 #[.val (.ref x0), .val (.int x1)] [] := by first | (simp [entryFrame, mkF, argsToLocals, Value.category]; done) | rfl
def Q_rmCh3_0 (Z : State) (so : Nat) (tb : Nat) (kb : ClassId) (c0 : Int32) (c1 : Int32) (c2 : Int32) (zc : Int32) (gv : Value) (h0 : Heap) (n0 : Nat) (v : Option Value) (h : Heap) (L : List Loc) : Prop := v = some (.int c0) ∧ Fr n0 L ∧ h = h0
set_option maxRecDepth 65536 in
set_option maxHeartbeats 40000000 in
theorem rmCh3_0 (l : Launch) (Z : State) (a0 : Array Value) (hw : ∀ d ∈ tables_1, d.before a0 Z = true) (ws : List Jvm.Cond) (so : Nat) (tb : Nat) (kb : ClassId) (c0 : Int32) (c1 : Int32) (c2 : Int32) (zc : Int32) (gv : Value) (h0 : Heap) (n0 : Nat) (Z0 : n0 ≤ h0.size) (P1 : Exa Z h0 so "java/lang/String") (P2 : Fld Z h0 so "java/lang/String" "value" "[B" (.ref tb)) (P3 : Fld Z h0 so "java/lang/String" "coder" "B" (.int (0 : Int32))) (P4 : Arv Z h0 tb kb .byte (3 : Int32) [(.int (c0.toInt8.toInt32)), (.int (c1.toInt8.toInt32)), (.int (c2.toInt8.toInt32))] (.int (0 : Int32))) (OLD : Old Z n0 h0) (P5 : Sta Z Z.heap "java/lang/String" "COMPACT_STRINGS" "Z" (.int zc)) (P6 : Sta Z Z.heap "jdk/internal/util/Preconditions" "SIOOBE_FORMATTER" "Ljava/util/function/BiFunction;" gv) (hzc : ¬ (zc = (0 : Int32))) (hgv : gv.isRef = true) (hrg : own_rg c0) :
    MetFree l (⟨"java/lang/String", "charAt", "(I)C"⟩ : MethodName) (head1 (Jvm.Cond.code (⟨"java/lang/String", "charAt", "(I)C"⟩ : MethodName) jdk_42_method_56_code 2 (some .char) :: ws) ({ frames := 3, cells := 0, slots := 0, locals := 40 } : Room)) (fun a U => a = #[(.ref so), (.int (0 : Int32))] ∧ Z.Warmed39 U.vm ∧ U.heap = h0) (fun _ _ _ _ _ => True) (fun _ U o U' => ∃ v L, o = .returned v ∧ Q_rmCh3_0 Z so tb kb c0 c1 c2 zc gv h0 n0 v U'.heap L ∧ FrameEnd U o U' L ({ frames := 3, cells := 0, slots := 0, locals := 40 } : Room).cells ({ frames := 3, cells := 0, slots := 0, locals := 40 } : Room).slots) := by
  refine MetFree.of_bodySF (plainFor_of_name pn_java_lang_String) hisR ?_
  intro p e s m args below meth c s₁ Bd hml0 hP hK
  obtain ⟨rfl, hZ, hh⟩ := hP
  have hx := Bd.exec
  have hby := Bd.bytes
  have hml : c.maxLocals = 2 := hml0
  have hown : s.vm.findClass "java/lang/String" = some m.cls := findClass_of_methodNamed Bd.named
  have hnm := (name_of_methodNamed Bd.named Bd.method).1
  have X0 : Stand p l e ({ frames := 3, cells := 0, slots := 0, locals := 40 } : Room) s m #[(.ref so), (.int (0 : Int32))] below meth c s₁ [] 0 0 := Stand.of_body Bd
  have e0 : s₁.heap = h0 := by rw [← hh, Bd.state]; rfl
  have N0 := Fr.nil n0
  have pre0 : ∀ t, Steps p.tables e below (s₁.setTop (mkF m 0 #[.val (.ref so), .val (.int (0 : Int32))] [])) t → Steps p.tables e below (s₁.setTop (entryFrame m #[(.ref so), (.int (0 : Int32))] 2)) t := fun t k => castTop (ef_rmCh3_0 m so (0 : Int32)) k
  have oz := OLD.1
  have lt_so : so < h0.size := P1.lt
  have lt_tb : tb < h0.size := P4.lt
  refine own_go (B := s₁.setTop (mkF m 0 #[.val (.ref so), .val (.int (0 : Int32))] [])) pre0 ?_
  show ∃ t o, Steps p.tables e below (s₁.setTop (mkF m 0 #[.val (.ref so), .val (.int (0 : Int32))] [])) t ∧ _
  refine own_go (fun _ => XS.aloadN X0.here hx rfl (hb hby d13_0) rfl rfl) ?_
  show ∃ t o, Steps p.tables e below (s₁.setTop (mkF m 1 #[.val (.ref so), .val (.int (0 : Int32))] [(.ref so)])) t ∧ _
  obtain ⟨cq7, kq7, q7a, q7b, q7c⟩ := isOf hZ e0 P1
  obtain ⟨_, _, ⟨T7, L7, k7, n7⟩, -, X7, ⟨Lc7, hQ7, l7, y7, z7⟩, st7⟩ := X0.virtualBack hx (y := (⟨"java/lang/String", "isLatin1", "()Z"⟩ : MethodName)) (z := (⟨"java/lang/String", "isLatin1", "()Z"⟩ : MethodName)) hown (mvT hZ (hw _ (List.mem_of_getElem? (i := 66) rfl))) (mvT hZ (hw _ (List.mem_of_getElem? (i := 67) rfl))) (notFace_of_selects (args := #[]) (mvT hZ (hw _ (List.mem_of_getElem? (i := 69) rfl)))) (mvT hZ (hw _ (List.mem_of_getElem? (i := 69) rfl))) (mvT hZ (hw _ (List.mem_of_getElem? (i := 68) rfl))) (by decide) (backOf (W := 0) (rmLat l Z a0 hw [] so zc h0 n0 Z0 P3 OLD P5 hzc) hZ (hw _ (List.mem_of_getElem? (i := 70) rfl)) (hw _ (List.mem_of_getElem? (i := 7) rfl)) (by decide) (by decide)) q7a q7c (g := (mkF m 1 #[.val (.ref so), .val (.int (0 : Int32))] [(.ref so)])) rfl (by rw [hml]; rfl) (Steps.refl _) (argsL := []) (rest := []) (lenOf pd__28_29Z rfl) rfl (by show 2 * 0 + _ ≤ _; exact Nat.le_of_eq rfl) (hb hby d13_1) (fun _ _ => ⟨rfl, e0, (by decide : 0 + 0 ≤ _), (by decide : 0 + 0 ≤ _)⟩)
  dsimp only [Pt.U, Pt.locs, Pt.cells, Pt.slots] at X7 l7 y7 z7 st7 hQ7
  subst l7 y7 z7
  obtain ⟨rfl, Nq7, e7⟩ := hQ7
  have N7 := Fr.app N0 Nq7
  refine own_goT st7 ?_
  show ∃ t o, Steps p.tables e below (T7.setTop (mkF m 4 #[.val (.ref so), .val (.int (0 : Int32))] [(.int (1 : Int32))])) t ∧ _
  refine own_go (fun _ => XS.ifNo X7.here hx rfl (hb hby d13_4) rfl ((if0 _ _).trans (feq (by decide : ¬ ((1 : Int32) = (0 : Int32)))).1)) ?_
  refine own_go (fun _ => XS.aloadN X7.here hx rfl (hb hby d13_7) rfl rfl) ?_
  obtain ⟨T8, X8, e8, st8⟩ := getF X7 hx hZ hown (host := "") (Or.inl (hw _ (List.mem_of_getElem? (i := 33) rfl))) Via.refl e7 P2 (g := (mkF m 8 #[.val (.ref so), .val (.int (0 : Int32))] [(.ref so)])) rfl rfl (hb hby d13_8)
  refine own_go st8 ?_
  show ∃ t o, Steps p.tables e below (T8.setTop (mkF m 11 #[.val (.ref so), .val (.int (0 : Int32))] [(.ref tb)])) t ∧ _
  refine own_go (fun _ => XS.iloadN X8.here hx rfl (hb hby d13_11) rfl) ?_
  show ∃ t o, Steps p.tables e below (T8.setTop (mkF m 12 #[.val (.ref so), .val (.int (0 : Int32))] [(.int (0 : Int32)), (.ref tb)])) t ∧ _
  obtain ⟨_, _, ⟨T9, L9, k9, n9⟩, -, X9, ⟨Lc9, hQ9, l9, y9, z9⟩, st9⟩ := Jvm.LawKit.callS X8 hx (y := (⟨"java/lang/StringLatin1", "charAt", "([BI)C"⟩ : MethodName)) hown (mvT hZ (hw _ (List.mem_of_getElem? (i := 71) rfl))) (mvT hZ (hw _ (List.mem_of_getElem? (i := 72) rfl))) (mvT hZ (hw _ (List.mem_of_getElem? (i := 73) rfl))) (mvT hZ (hw _ (List.mem_of_getElem? (i := 74) rfl))) (by decide) (backOf (W := 0) (rmLch3_0 l Z a0 hw [] tb kb c0 c1 c2 gv h0 n0 Z0 P4 OLD P6 hrg hgv) hZ (hw _ (List.mem_of_getElem? (i := 74) rfl)) (hw _ (List.mem_of_getElem? (i := 73) rfl)) (by decide) (by decide)) (g := (mkF m 12 #[.val (.ref so), .val (.int (0 : Int32))] [(.int (0 : Int32)), (.ref tb)])) rfl (by rw [hml]; rfl) (argsL := [(.ref tb), (.int (0 : Int32))]) (rest := []) (lenOf pd__28_5bBI_29C rfl) rfl (by show 2 * 0 + _ ≤ _; exact Nat.le_of_eq rfl) (hb hby d13_12) (fun _ _ => ⟨rfl, e8, (by decide : 0 + 0 ≤ _), (by decide : 0 + 0 ≤ _)⟩)
  dsimp only [Pt.U, Pt.locs, Pt.cells, Pt.slots] at X9 l9 y9 z9 st9 hQ9
  subst l9 y9 z9
  obtain ⟨rfl, Nq9, e9⟩ := hQ9
  have N9 := Fr.app N7 Nq9
  refine own_go st9 ?_
  show ∃ t o, Steps p.tables e below (T9.setTop (mkF m 15 #[.val (.ref so), .val (.int (0 : Int32))] [(.int c0)])) t ∧ _
  obtain ⟨fs, hr, hrun, hended, hW, hsame⟩ := X9.leave (v := some (.int (nar .char c0))) (fun h => by rw [Bd.returns] at h; cases h)
  refine ⟨_, _, ?_, hrun, hended, _, _, rfl, ?_, ⟨_, rfl⟩, hW, hsame.mono (by decide) (by decide)⟩
  · exact retN X9 hx (t := .char) Bd.returns (by simp) (hb hby d13_15) hr
  · show Q_rmCh3_0 Z _ _ _ _ _ _ _ _ h0 n0 _ T9.heap _
    rw [e9]
    exact ⟨(congrArg (fun z => some (Value.int z)) (own_narc hrg)), N9, rfl⟩
theorem ef_rmLch3_1 (m : MethodId) (x0 : Nat) (x1 : Int32) : entryFrame m #[(.ref x0), (.int x1)] 2 = mkF m 0 #[.val (.ref x0), .val (.int x1)] [] := by first | (simp [entryFrame, mkF, argsToLocals, Value.category]; done) | rfl
def Q_rmLch3_1 (Z : State) (tb : Nat) (kb : ClassId) (c0 : Int32) (c1 : Int32) (c2 : Int32) (gv : Value) (h0 : Heap) (n0 : Nat) (v : Option Value) (h : Heap) (L : List Loc) : Prop := v = some (.int c1) ∧ Fr n0 L ∧ h = h0
set_option maxRecDepth 65536 in
set_option maxHeartbeats 40000000 in
theorem rmLch3_1 (l : Launch) (Z : State) (a0 : Array Value) (hw : ∀ d ∈ tables_1, d.before a0 Z = true) (ws : List Jvm.Cond) (tb : Nat) (kb : ClassId) (c0 : Int32) (c1 : Int32) (c2 : Int32) (gv : Value) (h0 : Heap) (n0 : Nat) (Z0 : n0 ≤ h0.size) (P1 : Arv Z h0 tb kb .byte (3 : Int32) [(.int (c0.toInt8.toInt32)), (.int (c1.toInt8.toInt32)), (.int (c2.toInt8.toInt32))] (.int (0 : Int32))) (OLD : Old Z n0 h0) (P2 : Sta Z Z.heap "jdk/internal/util/Preconditions" "SIOOBE_FORMATTER" "Ljava/util/function/BiFunction;" gv) (hrg : own_rg c1) (hgv : gv.isRef = true) :
    MetFree l (⟨"java/lang/StringLatin1", "charAt", "([BI)C"⟩ : MethodName) (head1 (Jvm.Cond.code (⟨"java/lang/StringLatin1", "charAt", "([BI)C"⟩ : MethodName) jdk_43_method_2_code 2 (some .char) :: ws) ({ frames := 2, cells := 0, slots := 0, locals := 27 } : Room)) (fun a U => a = #[(.ref tb), (.int (1 : Int32))] ∧ Z.Warmed39 U.vm ∧ U.heap = h0) (fun _ _ _ _ _ => True) (fun _ U o U' => ∃ v L, o = .returned v ∧ Q_rmLch3_1 Z tb kb c0 c1 c2 gv h0 n0 v U'.heap L ∧ FrameEnd U o U' L ({ frames := 2, cells := 0, slots := 0, locals := 27 } : Room).cells ({ frames := 2, cells := 0, slots := 0, locals := 27 } : Room).slots) := by
  refine MetFree.of_bodySF (plainFor_of_name pn_java_lang_StringLatin1) hisR ?_
  intro p e s m args below meth c s₁ Bd hml0 hP hK
  obtain ⟨rfl, hZ, hh⟩ := hP
  have hx := Bd.exec
  have hby := Bd.bytes
  have hml : c.maxLocals = 2 := hml0
  have hown : s.vm.findClass "java/lang/StringLatin1" = some m.cls := findClass_of_methodNamed Bd.named
  have hnm := (name_of_methodNamed Bd.named Bd.method).1
  have X0 : Stand p l e ({ frames := 2, cells := 0, slots := 0, locals := 27 } : Room) s m #[(.ref tb), (.int (1 : Int32))] below meth c s₁ [] 0 0 := Stand.of_body Bd
  have e0 : s₁.heap = h0 := by rw [← hh, Bd.state]; rfl
  have N0 := Fr.nil n0
  have pre0 : ∀ t, Steps p.tables e below (s₁.setTop (mkF m 0 #[.val (.ref tb), .val (.int (1 : Int32))] [])) t → Steps p.tables e below (s₁.setTop (entryFrame m #[(.ref tb), (.int (1 : Int32))] 2)) t := fun t k => castTop (ef_rmLch3_1 m tb (1 : Int32)) k
  have oz := OLD.1
  have lt_tb : tb < h0.size := P1.lt
  refine own_go (B := s₁.setTop (mkF m 0 #[.val (.ref tb), .val (.int (1 : Int32))] [])) pre0 ?_
  show ∃ t o, Steps p.tables e below (s₁.setTop (mkF m 0 #[.val (.ref tb), .val (.int (1 : Int32))] [])) t ∧ _
  refine own_go (fun _ => XS.iloadN X0.here hx rfl (hb hby d15_0) rfl) ?_
  refine own_go (fun _ => XS.aloadN X0.here hx rfl (hb hby d15_1) rfl rfl) ?_
  obtain ⟨cl3, Ar3, q3, S3, N3, H3, G3⟩ := id P1
  have ln3 : cl3.slots.size.toInt32 = (3 : Int32) := len_of S3 N3
  have al3 := X0.arraylength hx (by rw [e0]; exact Ar3.1) (State.isArrayOf_alike hZ.alike Ar3.2.1) (g := (mkF m 2 #[.val (.ref tb), .val (.int (1 : Int32))] [(.ref tb), (.int (1 : Int32))])) rfl rfl (hb hby d15_2)
  rw [ln3] at al3
  refine own_go al3 ?_
  show ∃ t o, Steps p.tables e below (s₁.setTop (mkF m 3 #[.val (.ref tb), .val (.int (1 : Int32))] [(.int (3 : Int32)), (.int (1 : Int32))])) t ∧ _
  obtain ⟨_, _, ⟨T4, L4, k4, n4⟩, -, X4, ⟨Lc4, hQ4, l4, y4, z4⟩, st4⟩ := Jvm.LawKit.callS X0 hx (y := (⟨"java/lang/String", "checkIndex", "(II)V"⟩ : MethodName)) hown (mvT hZ (hw _ (List.mem_of_getElem? (i := 75) rfl))) (mvT hZ (hw _ (List.mem_of_getElem? (i := 76) rfl))) (mvT hZ (hw _ (List.mem_of_getElem? (i := 7) rfl))) (mvT hZ (hw _ (List.mem_of_getElem? (i := 77) rfl))) (by decide) (backOf (W := 0) (rmCi l Z a0 hw [] (1 : Int32) (3 : Int32) gv h0 n0 Z0 OLD P2 hgv (by decide) (by decide)) hZ (hw _ (List.mem_of_getElem? (i := 77) rfl)) (hw _ (List.mem_of_getElem? (i := 7) rfl)) (by decide) (by decide)) (g := (mkF m 3 #[.val (.ref tb), .val (.int (1 : Int32))] [(.int (3 : Int32)), (.int (1 : Int32))])) rfl (by rw [hml]; rfl) (argsL := [(.int (1 : Int32)), (.int (3 : Int32))]) (rest := []) (lenOf pd__28II_29V rfl) rfl (by show 2 * 0 + _ ≤ _; exact Nat.le_of_eq rfl) (hb hby d15_3) (fun _ _ => ⟨rfl, e0, (by decide : 0 + 0 ≤ _), (by decide : 0 + 0 ≤ _)⟩)
  dsimp only [Pt.U, Pt.locs, Pt.cells, Pt.slots] at X4 l4 y4 z4 st4 hQ4
  subst l4 y4 z4
  obtain ⟨rfl, Nq4, e4⟩ := hQ4
  have N4 := Fr.app N0 Nq4
  refine own_go st4 ?_
  refine own_go (fun _ => XS.aloadN X4.here hx rfl (hb hby d15_6) rfl rfl) ?_
  refine own_go (fun _ => XS.iloadN X4.here hx rfl (hb hby d15_7) rfl) ?_
  show ∃ t o, Steps p.tables e below (T4.setTop (mkF m 8 #[.val (.ref tb), .val (.int (1 : Int32))] [(.int (1 : Int32)), (.ref tb)])) t ∧ _
  obtain ⟨cl5, Ar5, q5, S5, N5, H5, G5⟩ := id P1
  have hin5 : ¬ ((1 : Int32) < 0 ∨ cl5.slots.size ≤ ((1 : Int32)).toNatClampNeg) := inb_of S5 ⟨by decide, by decide⟩
  have hat5 : cl5.slots[((1 : Int32)).toNatClampNeg]? = some (.int (c1.toInt8.toInt32)) := Has.at H5 hin5 rfl
  refine own_go (fun _ => X4.baloadBytes hx (j := (1 : Int32)) (v := (.int (c1.toInt8.toInt32))) (by rw [e4]; exact Ar5.1) (State.isArrayOf_alike hZ.alike Ar5.2.1) Ar5.2.2 hin5 hat5 (g := (mkF m 8 #[.val (.ref tb), .val (.int (1 : Int32))] [(.int (1 : Int32)), (.ref tb)])) rfl rfl (hb hby d15_8) _) ?_
  refine own_go (fun _ => XS.sipush X4.here hx rfl (hb hby d15_9)) ?_
  refine own_go (fun _ => XS.iand X4.here hx rfl (hb hby d15_12) rfl) ?_
  show ∃ t o, Steps p.tables e below (T4.setTop (mkF m 13 #[.val (.ref tb), .val (.int (1 : Int32))] [(.int ((c1.toInt8.toInt32) &&& (255 : Int32)))])) t ∧ _
  refine own_go (fun _ => XS.i2c X4.here hx rfl (hb hby d15_13) rfl) ?_
  show ∃ t o, Steps p.tables e below (T4.setTop (mkF m 14 #[.val (.ref tb), .val (.int (1 : Int32))] [(.int (((c1.toInt8.toInt32) &&& (255 : Int32)).toUInt32.toUInt16.toUInt32.toInt32))])) t ∧ _
  obtain ⟨fs, hr, hrun, hended, hW, hsame⟩ := X4.leave (v := some (.int (nar .char (((c1.toInt8.toInt32) &&& (255 : Int32)).toUInt32.toUInt16.toUInt32.toInt32)))) (fun h => by rw [Bd.returns] at h; cases h)
  refine ⟨_, _, ?_, hrun, hended, _, _, rfl, ?_, ⟨_, rfl⟩, hW, hsame.mono (by decide) (by decide)⟩
  · exact retN X4 hx (t := .char) Bd.returns (by simp) (hb hby d15_14) hr
  · show Q_rmLch3_1 Z _ _ _ _ _ _ h0 n0 _ T4.heap _
    rw [e4]
    exact ⟨(congrArg (fun z => some (Value.int z)) (own_back hrg)), N4, rfl⟩
theorem ef_rmCh3_1 (m : MethodId) (x0 : Nat) (x1 : Int32) : entryFrame m #[(.ref x0), (.int x1)] 2 = mkF m 0 #[.val (.ref x0), .val (.int x1)] [] := by first | (simp [entryFrame, mkF, argsToLocals, Value.category]; done) | rfl
def Q_rmCh3_1 (Z : State) (so : Nat) (tb : Nat) (kb : ClassId) (c0 : Int32) (c1 : Int32) (c2 : Int32) (zc : Int32) (gv : Value) (h0 : Heap) (n0 : Nat) (v : Option Value) (h : Heap) (L : List Loc) : Prop := v = some (.int c1) ∧ Fr n0 L ∧ h = h0
set_option maxRecDepth 65536 in
set_option maxHeartbeats 40000000 in
theorem rmCh3_1 (l : Launch) (Z : State) (a0 : Array Value) (hw : ∀ d ∈ tables_1, d.before a0 Z = true) (ws : List Jvm.Cond) (so : Nat) (tb : Nat) (kb : ClassId) (c0 : Int32) (c1 : Int32) (c2 : Int32) (zc : Int32) (gv : Value) (h0 : Heap) (n0 : Nat) (Z0 : n0 ≤ h0.size) (P1 : Exa Z h0 so "java/lang/String") (P2 : Fld Z h0 so "java/lang/String" "value" "[B" (.ref tb)) (P3 : Fld Z h0 so "java/lang/String" "coder" "B" (.int (0 : Int32))) (P4 : Arv Z h0 tb kb .byte (3 : Int32) [(.int (c0.toInt8.toInt32)), (.int (c1.toInt8.toInt32)), (.int (c2.toInt8.toInt32))] (.int (0 : Int32))) (OLD : Old Z n0 h0) (P5 : Sta Z Z.heap "java/lang/String" "COMPACT_STRINGS" "Z" (.int zc)) (P6 : Sta Z Z.heap "jdk/internal/util/Preconditions" "SIOOBE_FORMATTER" "Ljava/util/function/BiFunction;" gv) (hzc : ¬ (zc = (0 : Int32))) (hgv : gv.isRef = true) (hrg : own_rg c1) :
    MetFree l (⟨"java/lang/String", "charAt", "(I)C"⟩ : MethodName) (head1 (Jvm.Cond.code (⟨"java/lang/String", "charAt", "(I)C"⟩ : MethodName) jdk_42_method_56_code 2 (some .char) :: ws) ({ frames := 3, cells := 0, slots := 0, locals := 40 } : Room)) (fun a U => a = #[(.ref so), (.int (1 : Int32))] ∧ Z.Warmed39 U.vm ∧ U.heap = h0) (fun _ _ _ _ _ => True) (fun _ U o U' => ∃ v L, o = .returned v ∧ Q_rmCh3_1 Z so tb kb c0 c1 c2 zc gv h0 n0 v U'.heap L ∧ FrameEnd U o U' L ({ frames := 3, cells := 0, slots := 0, locals := 40 } : Room).cells ({ frames := 3, cells := 0, slots := 0, locals := 40 } : Room).slots) := by
  refine MetFree.of_bodySF (plainFor_of_name pn_java_lang_String) hisR ?_
  intro p e s m args below meth c s₁ Bd hml0 hP hK
  obtain ⟨rfl, hZ, hh⟩ := hP
  have hx := Bd.exec
  have hby := Bd.bytes
  have hml : c.maxLocals = 2 := hml0
  have hown : s.vm.findClass "java/lang/String" = some m.cls := findClass_of_methodNamed Bd.named
  have hnm := (name_of_methodNamed Bd.named Bd.method).1
  have X0 : Stand p l e ({ frames := 3, cells := 0, slots := 0, locals := 40 } : Room) s m #[(.ref so), (.int (1 : Int32))] below meth c s₁ [] 0 0 := Stand.of_body Bd
  have e0 : s₁.heap = h0 := by rw [← hh, Bd.state]; rfl
  have N0 := Fr.nil n0
  have pre0 : ∀ t, Steps p.tables e below (s₁.setTop (mkF m 0 #[.val (.ref so), .val (.int (1 : Int32))] [])) t → Steps p.tables e below (s₁.setTop (entryFrame m #[(.ref so), (.int (1 : Int32))] 2)) t := fun t k => castTop (ef_rmCh3_1 m so (1 : Int32)) k
  have oz := OLD.1
  have lt_so : so < h0.size := P1.lt
  have lt_tb : tb < h0.size := P4.lt
  refine own_go (B := s₁.setTop (mkF m 0 #[.val (.ref so), .val (.int (1 : Int32))] [])) pre0 ?_
  show ∃ t o, Steps p.tables e below (s₁.setTop (mkF m 0 #[.val (.ref so), .val (.int (1 : Int32))] [])) t ∧ _
  refine own_go (fun _ => XS.aloadN X0.here hx rfl (hb hby d13_0) rfl rfl) ?_
  show ∃ t o, Steps p.tables e below (s₁.setTop (mkF m 1 #[.val (.ref so), .val (.int (1 : Int32))] [(.ref so)])) t ∧ _
  obtain ⟨cq7, kq7, q7a, q7b, q7c⟩ := isOf hZ e0 P1
  obtain ⟨_, _, ⟨T7, L7, k7, n7⟩, -, X7, ⟨Lc7, hQ7, l7, y7, z7⟩, st7⟩ := X0.virtualBack hx (y := (⟨"java/lang/String", "isLatin1", "()Z"⟩ : MethodName)) (z := (⟨"java/lang/String", "isLatin1", "()Z"⟩ : MethodName)) hown (mvT hZ (hw _ (List.mem_of_getElem? (i := 66) rfl))) (mvT hZ (hw _ (List.mem_of_getElem? (i := 67) rfl))) (notFace_of_selects (args := #[]) (mvT hZ (hw _ (List.mem_of_getElem? (i := 69) rfl)))) (mvT hZ (hw _ (List.mem_of_getElem? (i := 69) rfl))) (mvT hZ (hw _ (List.mem_of_getElem? (i := 68) rfl))) (by decide) (backOf (W := 0) (rmLat l Z a0 hw [] so zc h0 n0 Z0 P3 OLD P5 hzc) hZ (hw _ (List.mem_of_getElem? (i := 70) rfl)) (hw _ (List.mem_of_getElem? (i := 7) rfl)) (by decide) (by decide)) q7a q7c (g := (mkF m 1 #[.val (.ref so), .val (.int (1 : Int32))] [(.ref so)])) rfl (by rw [hml]; rfl) (Steps.refl _) (argsL := []) (rest := []) (lenOf pd__28_29Z rfl) rfl (by show 2 * 0 + _ ≤ _; exact Nat.le_of_eq rfl) (hb hby d13_1) (fun _ _ => ⟨rfl, e0, (by decide : 0 + 0 ≤ _), (by decide : 0 + 0 ≤ _)⟩)
  dsimp only [Pt.U, Pt.locs, Pt.cells, Pt.slots] at X7 l7 y7 z7 st7 hQ7
  subst l7 y7 z7
  obtain ⟨rfl, Nq7, e7⟩ := hQ7
  have N7 := Fr.app N0 Nq7
  refine own_goT st7 ?_
  show ∃ t o, Steps p.tables e below (T7.setTop (mkF m 4 #[.val (.ref so), .val (.int (1 : Int32))] [(.int (1 : Int32))])) t ∧ _
  refine own_go (fun _ => XS.ifNo X7.here hx rfl (hb hby d13_4) rfl ((if0 _ _).trans (feq (by decide : ¬ ((1 : Int32) = (0 : Int32)))).1)) ?_
  refine own_go (fun _ => XS.aloadN X7.here hx rfl (hb hby d13_7) rfl rfl) ?_
  obtain ⟨T8, X8, e8, st8⟩ := getF X7 hx hZ hown (host := "") (Or.inl (hw _ (List.mem_of_getElem? (i := 33) rfl))) Via.refl e7 P2 (g := (mkF m 8 #[.val (.ref so), .val (.int (1 : Int32))] [(.ref so)])) rfl rfl (hb hby d13_8)
  refine own_go st8 ?_
  show ∃ t o, Steps p.tables e below (T8.setTop (mkF m 11 #[.val (.ref so), .val (.int (1 : Int32))] [(.ref tb)])) t ∧ _
  refine own_go (fun _ => XS.iloadN X8.here hx rfl (hb hby d13_11) rfl) ?_
  show ∃ t o, Steps p.tables e below (T8.setTop (mkF m 12 #[.val (.ref so), .val (.int (1 : Int32))] [(.int (1 : Int32)), (.ref tb)])) t ∧ _
  obtain ⟨_, _, ⟨T9, L9, k9, n9⟩, -, X9, ⟨Lc9, hQ9, l9, y9, z9⟩, st9⟩ := Jvm.LawKit.callS X8 hx (y := (⟨"java/lang/StringLatin1", "charAt", "([BI)C"⟩ : MethodName)) hown (mvT hZ (hw _ (List.mem_of_getElem? (i := 71) rfl))) (mvT hZ (hw _ (List.mem_of_getElem? (i := 72) rfl))) (mvT hZ (hw _ (List.mem_of_getElem? (i := 73) rfl))) (mvT hZ (hw _ (List.mem_of_getElem? (i := 74) rfl))) (by decide) (backOf (W := 0) (rmLch3_1 l Z a0 hw [] tb kb c0 c1 c2 gv h0 n0 Z0 P4 OLD P6 hrg hgv) hZ (hw _ (List.mem_of_getElem? (i := 74) rfl)) (hw _ (List.mem_of_getElem? (i := 73) rfl)) (by decide) (by decide)) (g := (mkF m 12 #[.val (.ref so), .val (.int (1 : Int32))] [(.int (1 : Int32)), (.ref tb)])) rfl (by rw [hml]; rfl) (argsL := [(.ref tb), (.int (1 : Int32))]) (rest := []) (lenOf pd__28_5bBI_29C rfl) rfl (by show 2 * 0 + _ ≤ _; exact Nat.le_of_eq rfl) (hb hby d13_12) (fun _ _ => ⟨rfl, e8, (by decide : 0 + 0 ≤ _), (by decide : 0 + 0 ≤ _)⟩)
  dsimp only [Pt.U, Pt.locs, Pt.cells, Pt.slots] at X9 l9 y9 z9 st9 hQ9
  subst l9 y9 z9
  obtain ⟨rfl, Nq9, e9⟩ := hQ9
  have N9 := Fr.app N7 Nq9
  refine own_go st9 ?_
  show ∃ t o, Steps p.tables e below (T9.setTop (mkF m 15 #[.val (.ref so), .val (.int (1 : Int32))] [(.int c1)])) t ∧ _
  obtain ⟨fs, hr, hrun, hended, hW, hsame⟩ := X9.leave (v := some (.int (nar .char c1))) (fun h => by rw [Bd.returns] at h; cases h)
  refine ⟨_, _, ?_, hrun, hended, _, _, rfl, ?_, ⟨_, rfl⟩, hW, hsame.mono (by decide) (by decide)⟩
  · exact retN X9 hx (t := .char) Bd.returns (by simp) (hb hby d13_15) hr
  · show Q_rmCh3_1 Z _ _ _ _ _ _ _ _ h0 n0 _ T9.heap _
    rw [e9]
    exact ⟨(congrArg (fun z => some (Value.int z)) (own_narc hrg)), N9, rfl⟩
theorem ef_rmLch3_2 (m : MethodId) (x0 : Nat) (x1 : Int32) : entryFrame m #[(.ref x0), (.int x1)] 2 = mkF m 0 #[.val (.ref x0), .val (.int x1)] [] := by first | (simp [entryFrame, mkF, argsToLocals, Value.category]; done) | rfl
def Q_rmLch3_2 (Z : State) (tb : Nat) (kb : ClassId) (c0 : Int32) (c1 : Int32) (c2 : Int32) (gv : Value) (h0 : Heap) (n0 : Nat) (v : Option Value) (h : Heap) (L : List Loc) : Prop := v = some (.int c2) ∧ Fr n0 L ∧ h = h0
set_option maxRecDepth 65536 in
set_option maxHeartbeats 40000000 in
theorem rmLch3_2 (l : Launch) (Z : State) (a0 : Array Value) (hw : ∀ d ∈ tables_1, d.before a0 Z = true) (ws : List Jvm.Cond) (tb : Nat) (kb : ClassId) (c0 : Int32) (c1 : Int32) (c2 : Int32) (gv : Value) (h0 : Heap) (n0 : Nat) (Z0 : n0 ≤ h0.size) (P1 : Arv Z h0 tb kb .byte (3 : Int32) [(.int (c0.toInt8.toInt32)), (.int (c1.toInt8.toInt32)), (.int (c2.toInt8.toInt32))] (.int (0 : Int32))) (OLD : Old Z n0 h0) (P2 : Sta Z Z.heap "jdk/internal/util/Preconditions" "SIOOBE_FORMATTER" "Ljava/util/function/BiFunction;" gv) (hrg : own_rg c2) (hgv : gv.isRef = true) :
    MetFree l (⟨"java/lang/StringLatin1", "charAt", "([BI)C"⟩ : MethodName) (head1 (Jvm.Cond.code (⟨"java/lang/StringLatin1", "charAt", "([BI)C"⟩ : MethodName) jdk_43_method_2_code 2 (some .char) :: ws) ({ frames := 2, cells := 0, slots := 0, locals := 27 } : Room)) (fun a U => a = #[(.ref tb), (.int (2 : Int32))] ∧ Z.Warmed39 U.vm ∧ U.heap = h0) (fun _ _ _ _ _ => True) (fun _ U o U' => ∃ v L, o = .returned v ∧ Q_rmLch3_2 Z tb kb c0 c1 c2 gv h0 n0 v U'.heap L ∧ FrameEnd U o U' L ({ frames := 2, cells := 0, slots := 0, locals := 27 } : Room).cells ({ frames := 2, cells := 0, slots := 0, locals := 27 } : Room).slots) := by
  refine MetFree.of_bodySF (plainFor_of_name pn_java_lang_StringLatin1) hisR ?_
  intro p e s m args below meth c s₁ Bd hml0 hP hK
  obtain ⟨rfl, hZ, hh⟩ := hP
  have hx := Bd.exec
  have hby := Bd.bytes
  have hml : c.maxLocals = 2 := hml0
  have hown : s.vm.findClass "java/lang/StringLatin1" = some m.cls := findClass_of_methodNamed Bd.named
  have hnm := (name_of_methodNamed Bd.named Bd.method).1
  have X0 : Stand p l e ({ frames := 2, cells := 0, slots := 0, locals := 27 } : Room) s m #[(.ref tb), (.int (2 : Int32))] below meth c s₁ [] 0 0 := Stand.of_body Bd
  have e0 : s₁.heap = h0 := by rw [← hh, Bd.state]; rfl
  have N0 := Fr.nil n0
  have pre0 : ∀ t, Steps p.tables e below (s₁.setTop (mkF m 0 #[.val (.ref tb), .val (.int (2 : Int32))] [])) t → Steps p.tables e below (s₁.setTop (entryFrame m #[(.ref tb), (.int (2 : Int32))] 2)) t := fun t k => castTop (ef_rmLch3_2 m tb (2 : Int32)) k
  have oz := OLD.1
  have lt_tb : tb < h0.size := P1.lt
  refine own_go (B := s₁.setTop (mkF m 0 #[.val (.ref tb), .val (.int (2 : Int32))] [])) pre0 ?_
  show ∃ t o, Steps p.tables e below (s₁.setTop (mkF m 0 #[.val (.ref tb), .val (.int (2 : Int32))] [])) t ∧ _
  refine own_go (fun _ => XS.iloadN X0.here hx rfl (hb hby d15_0) rfl) ?_
  refine own_go (fun _ => XS.aloadN X0.here hx rfl (hb hby d15_1) rfl rfl) ?_
  obtain ⟨cl3, Ar3, q3, S3, N3, H3, G3⟩ := id P1
  have ln3 : cl3.slots.size.toInt32 = (3 : Int32) := len_of S3 N3
  have al3 := X0.arraylength hx (by rw [e0]; exact Ar3.1) (State.isArrayOf_alike hZ.alike Ar3.2.1) (g := (mkF m 2 #[.val (.ref tb), .val (.int (2 : Int32))] [(.ref tb), (.int (2 : Int32))])) rfl rfl (hb hby d15_2)
  rw [ln3] at al3
  refine own_go al3 ?_
  show ∃ t o, Steps p.tables e below (s₁.setTop (mkF m 3 #[.val (.ref tb), .val (.int (2 : Int32))] [(.int (3 : Int32)), (.int (2 : Int32))])) t ∧ _
  obtain ⟨_, _, ⟨T4, L4, k4, n4⟩, -, X4, ⟨Lc4, hQ4, l4, y4, z4⟩, st4⟩ := Jvm.LawKit.callS X0 hx (y := (⟨"java/lang/String", "checkIndex", "(II)V"⟩ : MethodName)) hown (mvT hZ (hw _ (List.mem_of_getElem? (i := 75) rfl))) (mvT hZ (hw _ (List.mem_of_getElem? (i := 76) rfl))) (mvT hZ (hw _ (List.mem_of_getElem? (i := 7) rfl))) (mvT hZ (hw _ (List.mem_of_getElem? (i := 77) rfl))) (by decide) (backOf (W := 0) (rmCi l Z a0 hw [] (2 : Int32) (3 : Int32) gv h0 n0 Z0 OLD P2 hgv (by decide) (by decide)) hZ (hw _ (List.mem_of_getElem? (i := 77) rfl)) (hw _ (List.mem_of_getElem? (i := 7) rfl)) (by decide) (by decide)) (g := (mkF m 3 #[.val (.ref tb), .val (.int (2 : Int32))] [(.int (3 : Int32)), (.int (2 : Int32))])) rfl (by rw [hml]; rfl) (argsL := [(.int (2 : Int32)), (.int (3 : Int32))]) (rest := []) (lenOf pd__28II_29V rfl) rfl (by show 2 * 0 + _ ≤ _; exact Nat.le_of_eq rfl) (hb hby d15_3) (fun _ _ => ⟨rfl, e0, (by decide : 0 + 0 ≤ _), (by decide : 0 + 0 ≤ _)⟩)
  dsimp only [Pt.U, Pt.locs, Pt.cells, Pt.slots] at X4 l4 y4 z4 st4 hQ4
  subst l4 y4 z4
  obtain ⟨rfl, Nq4, e4⟩ := hQ4
  have N4 := Fr.app N0 Nq4
  refine own_go st4 ?_
  refine own_go (fun _ => XS.aloadN X4.here hx rfl (hb hby d15_6) rfl rfl) ?_
  refine own_go (fun _ => XS.iloadN X4.here hx rfl (hb hby d15_7) rfl) ?_
  show ∃ t o, Steps p.tables e below (T4.setTop (mkF m 8 #[.val (.ref tb), .val (.int (2 : Int32))] [(.int (2 : Int32)), (.ref tb)])) t ∧ _
  obtain ⟨cl5, Ar5, q5, S5, N5, H5, G5⟩ := id P1
  have hin5 : ¬ ((2 : Int32) < 0 ∨ cl5.slots.size ≤ ((2 : Int32)).toNatClampNeg) := inb_of S5 ⟨by decide, by decide⟩
  have hat5 : cl5.slots[((2 : Int32)).toNatClampNeg]? = some (.int (c2.toInt8.toInt32)) := Has.at H5 hin5 rfl
  refine own_go (fun _ => X4.baloadBytes hx (j := (2 : Int32)) (v := (.int (c2.toInt8.toInt32))) (by rw [e4]; exact Ar5.1) (State.isArrayOf_alike hZ.alike Ar5.2.1) Ar5.2.2 hin5 hat5 (g := (mkF m 8 #[.val (.ref tb), .val (.int (2 : Int32))] [(.int (2 : Int32)), (.ref tb)])) rfl rfl (hb hby d15_8) _) ?_
  refine own_go (fun _ => XS.sipush X4.here hx rfl (hb hby d15_9)) ?_
  refine own_go (fun _ => XS.iand X4.here hx rfl (hb hby d15_12) rfl) ?_
  show ∃ t o, Steps p.tables e below (T4.setTop (mkF m 13 #[.val (.ref tb), .val (.int (2 : Int32))] [(.int ((c2.toInt8.toInt32) &&& (255 : Int32)))])) t ∧ _
  refine own_go (fun _ => XS.i2c X4.here hx rfl (hb hby d15_13) rfl) ?_
  show ∃ t o, Steps p.tables e below (T4.setTop (mkF m 14 #[.val (.ref tb), .val (.int (2 : Int32))] [(.int (((c2.toInt8.toInt32) &&& (255 : Int32)).toUInt32.toUInt16.toUInt32.toInt32))])) t ∧ _
  obtain ⟨fs, hr, hrun, hended, hW, hsame⟩ := X4.leave (v := some (.int (nar .char (((c2.toInt8.toInt32) &&& (255 : Int32)).toUInt32.toUInt16.toUInt32.toInt32)))) (fun h => by rw [Bd.returns] at h; cases h)
  refine ⟨_, _, ?_, hrun, hended, _, _, rfl, ?_, ⟨_, rfl⟩, hW, hsame.mono (by decide) (by decide)⟩
  · exact retN X4 hx (t := .char) Bd.returns (by simp) (hb hby d15_14) hr
  · show Q_rmLch3_2 Z _ _ _ _ _ _ h0 n0 _ T4.heap _
    rw [e4]
    exact ⟨(congrArg (fun z => some (Value.int z)) (own_back hrg)), N4, rfl⟩
theorem ef_rmCh3_2 (m : MethodId) (x0 : Nat) (x1 : Int32) : entryFrame m #[(.ref x0), (.int x1)] 2 = mkF m 0 #[.val (.ref x0), .val (.int x1)] [] := by first | (simp [entryFrame, mkF, argsToLocals, Value.category]; done) | rfl
def Q_rmCh3_2 (Z : State) (so : Nat) (tb : Nat) (kb : ClassId) (c0 : Int32) (c1 : Int32) (c2 : Int32) (zc : Int32) (gv : Value) (h0 : Heap) (n0 : Nat) (v : Option Value) (h : Heap) (L : List Loc) : Prop := v = some (.int c2) ∧ Fr n0 L ∧ h = h0
set_option maxRecDepth 65536 in
set_option maxHeartbeats 40000000 in
theorem rmCh3_2 (l : Launch) (Z : State) (a0 : Array Value) (hw : ∀ d ∈ tables_1, d.before a0 Z = true) (ws : List Jvm.Cond) (so : Nat) (tb : Nat) (kb : ClassId) (c0 : Int32) (c1 : Int32) (c2 : Int32) (zc : Int32) (gv : Value) (h0 : Heap) (n0 : Nat) (Z0 : n0 ≤ h0.size) (P1 : Exa Z h0 so "java/lang/String") (P2 : Fld Z h0 so "java/lang/String" "value" "[B" (.ref tb)) (P3 : Fld Z h0 so "java/lang/String" "coder" "B" (.int (0 : Int32))) (P4 : Arv Z h0 tb kb .byte (3 : Int32) [(.int (c0.toInt8.toInt32)), (.int (c1.toInt8.toInt32)), (.int (c2.toInt8.toInt32))] (.int (0 : Int32))) (OLD : Old Z n0 h0) (P5 : Sta Z Z.heap "java/lang/String" "COMPACT_STRINGS" "Z" (.int zc)) (P6 : Sta Z Z.heap "jdk/internal/util/Preconditions" "SIOOBE_FORMATTER" "Ljava/util/function/BiFunction;" gv) (hzc : ¬ (zc = (0 : Int32))) (hgv : gv.isRef = true) (hrg : own_rg c2) :
    MetFree l (⟨"java/lang/String", "charAt", "(I)C"⟩ : MethodName) (head1 (Jvm.Cond.code (⟨"java/lang/String", "charAt", "(I)C"⟩ : MethodName) jdk_42_method_56_code 2 (some .char) :: ws) ({ frames := 3, cells := 0, slots := 0, locals := 40 } : Room)) (fun a U => a = #[(.ref so), (.int (2 : Int32))] ∧ Z.Warmed39 U.vm ∧ U.heap = h0) (fun _ _ _ _ _ => True) (fun _ U o U' => ∃ v L, o = .returned v ∧ Q_rmCh3_2 Z so tb kb c0 c1 c2 zc gv h0 n0 v U'.heap L ∧ FrameEnd U o U' L ({ frames := 3, cells := 0, slots := 0, locals := 40 } : Room).cells ({ frames := 3, cells := 0, slots := 0, locals := 40 } : Room).slots) := by
  refine MetFree.of_bodySF (plainFor_of_name pn_java_lang_String) hisR ?_
  intro p e s m args below meth c s₁ Bd hml0 hP hK
  obtain ⟨rfl, hZ, hh⟩ := hP
  have hx := Bd.exec
  have hby := Bd.bytes
  have hml : c.maxLocals = 2 := hml0
  have hown : s.vm.findClass "java/lang/String" = some m.cls := findClass_of_methodNamed Bd.named
  have hnm := (name_of_methodNamed Bd.named Bd.method).1
  have X0 : Stand p l e ({ frames := 3, cells := 0, slots := 0, locals := 40 } : Room) s m #[(.ref so), (.int (2 : Int32))] below meth c s₁ [] 0 0 := Stand.of_body Bd
  have e0 : s₁.heap = h0 := by rw [← hh, Bd.state]; rfl
  have N0 := Fr.nil n0
  have pre0 : ∀ t, Steps p.tables e below (s₁.setTop (mkF m 0 #[.val (.ref so), .val (.int (2 : Int32))] [])) t → Steps p.tables e below (s₁.setTop (entryFrame m #[(.ref so), (.int (2 : Int32))] 2)) t := fun t k => castTop (ef_rmCh3_2 m so (2 : Int32)) k
  have oz := OLD.1
  have lt_so : so < h0.size := P1.lt
  have lt_tb : tb < h0.size := P4.lt
  refine own_go (B := s₁.setTop (mkF m 0 #[.val (.ref so), .val (.int (2 : Int32))] [])) pre0 ?_
  show ∃ t o, Steps p.tables e below (s₁.setTop (mkF m 0 #[.val (.ref so), .val (.int (2 : Int32))] [])) t ∧ _
  refine own_go (fun _ => XS.aloadN X0.here hx rfl (hb hby d13_0) rfl rfl) ?_
  show ∃ t o, Steps p.tables e below (s₁.setTop (mkF m 1 #[.val (.ref so), .val (.int (2 : Int32))] [(.ref so)])) t ∧ _
  obtain ⟨cq7, kq7, q7a, q7b, q7c⟩ := isOf hZ e0 P1
  obtain ⟨_, _, ⟨T7, L7, k7, n7⟩, -, X7, ⟨Lc7, hQ7, l7, y7, z7⟩, st7⟩ := X0.virtualBack hx (y := (⟨"java/lang/String", "isLatin1", "()Z"⟩ : MethodName)) (z := (⟨"java/lang/String", "isLatin1", "()Z"⟩ : MethodName)) hown (mvT hZ (hw _ (List.mem_of_getElem? (i := 66) rfl))) (mvT hZ (hw _ (List.mem_of_getElem? (i := 67) rfl))) (notFace_of_selects (args := #[]) (mvT hZ (hw _ (List.mem_of_getElem? (i := 69) rfl)))) (mvT hZ (hw _ (List.mem_of_getElem? (i := 69) rfl))) (mvT hZ (hw _ (List.mem_of_getElem? (i := 68) rfl))) (by decide) (backOf (W := 0) (rmLat l Z a0 hw [] so zc h0 n0 Z0 P3 OLD P5 hzc) hZ (hw _ (List.mem_of_getElem? (i := 70) rfl)) (hw _ (List.mem_of_getElem? (i := 7) rfl)) (by decide) (by decide)) q7a q7c (g := (mkF m 1 #[.val (.ref so), .val (.int (2 : Int32))] [(.ref so)])) rfl (by rw [hml]; rfl) (Steps.refl _) (argsL := []) (rest := []) (lenOf pd__28_29Z rfl) rfl (by show 2 * 0 + _ ≤ _; exact Nat.le_of_eq rfl) (hb hby d13_1) (fun _ _ => ⟨rfl, e0, (by decide : 0 + 0 ≤ _), (by decide : 0 + 0 ≤ _)⟩)
  dsimp only [Pt.U, Pt.locs, Pt.cells, Pt.slots] at X7 l7 y7 z7 st7 hQ7
  subst l7 y7 z7
  obtain ⟨rfl, Nq7, e7⟩ := hQ7
  have N7 := Fr.app N0 Nq7
  refine own_goT st7 ?_
  show ∃ t o, Steps p.tables e below (T7.setTop (mkF m 4 #[.val (.ref so), .val (.int (2 : Int32))] [(.int (1 : Int32))])) t ∧ _
  refine own_go (fun _ => XS.ifNo X7.here hx rfl (hb hby d13_4) rfl ((if0 _ _).trans (feq (by decide : ¬ ((1 : Int32) = (0 : Int32)))).1)) ?_
  refine own_go (fun _ => XS.aloadN X7.here hx rfl (hb hby d13_7) rfl rfl) ?_
  obtain ⟨T8, X8, e8, st8⟩ := getF X7 hx hZ hown (host := "") (Or.inl (hw _ (List.mem_of_getElem? (i := 33) rfl))) Via.refl e7 P2 (g := (mkF m 8 #[.val (.ref so), .val (.int (2 : Int32))] [(.ref so)])) rfl rfl (hb hby d13_8)
  refine own_go st8 ?_
  show ∃ t o, Steps p.tables e below (T8.setTop (mkF m 11 #[.val (.ref so), .val (.int (2 : Int32))] [(.ref tb)])) t ∧ _
  refine own_go (fun _ => XS.iloadN X8.here hx rfl (hb hby d13_11) rfl) ?_
  show ∃ t o, Steps p.tables e below (T8.setTop (mkF m 12 #[.val (.ref so), .val (.int (2 : Int32))] [(.int (2 : Int32)), (.ref tb)])) t ∧ _
  obtain ⟨_, _, ⟨T9, L9, k9, n9⟩, -, X9, ⟨Lc9, hQ9, l9, y9, z9⟩, st9⟩ := Jvm.LawKit.callS X8 hx (y := (⟨"java/lang/StringLatin1", "charAt", "([BI)C"⟩ : MethodName)) hown (mvT hZ (hw _ (List.mem_of_getElem? (i := 71) rfl))) (mvT hZ (hw _ (List.mem_of_getElem? (i := 72) rfl))) (mvT hZ (hw _ (List.mem_of_getElem? (i := 73) rfl))) (mvT hZ (hw _ (List.mem_of_getElem? (i := 74) rfl))) (by decide) (backOf (W := 0) (rmLch3_2 l Z a0 hw [] tb kb c0 c1 c2 gv h0 n0 Z0 P4 OLD P6 hrg hgv) hZ (hw _ (List.mem_of_getElem? (i := 74) rfl)) (hw _ (List.mem_of_getElem? (i := 73) rfl)) (by decide) (by decide)) (g := (mkF m 12 #[.val (.ref so), .val (.int (2 : Int32))] [(.int (2 : Int32)), (.ref tb)])) rfl (by rw [hml]; rfl) (argsL := [(.ref tb), (.int (2 : Int32))]) (rest := []) (lenOf pd__28_5bBI_29C rfl) rfl (by show 2 * 0 + _ ≤ _; exact Nat.le_of_eq rfl) (hb hby d13_12) (fun _ _ => ⟨rfl, e8, (by decide : 0 + 0 ≤ _), (by decide : 0 + 0 ≤ _)⟩)
  dsimp only [Pt.U, Pt.locs, Pt.cells, Pt.slots] at X9 l9 y9 z9 st9 hQ9
  subst l9 y9 z9
  obtain ⟨rfl, Nq9, e9⟩ := hQ9
  have N9 := Fr.app N7 Nq9
  refine own_go st9 ?_
  show ∃ t o, Steps p.tables e below (T9.setTop (mkF m 15 #[.val (.ref so), .val (.int (2 : Int32))] [(.int c2)])) t ∧ _
  obtain ⟨fs, hr, hrun, hended, hW, hsame⟩ := X9.leave (v := some (.int (nar .char c2))) (fun h => by rw [Bd.returns] at h; cases h)
  refine ⟨_, _, ?_, hrun, hended, _, _, rfl, ?_, ⟨_, rfl⟩, hW, hsame.mono (by decide) (by decide)⟩
  · exact retN X9 hx (t := .char) Bd.returns (by simp) (hb hby d13_15) hr
  · show Q_rmCh3_2 Z _ _ _ _ _ _ _ _ h0 n0 _ T9.heap _
    rw [e9]
    exact ⟨(congrArg (fun z => some (Value.int z)) (own_narc hrg)), N9, rfl⟩
theorem ef_rmOf3 (m : MethodId) (x0 : Nat) : entryFrame m #[(.ref x0)] 2 = mkF m 0 #[.val (.ref x0), .unset] [] := by first | (simp [entryFrame, mkF, argsToLocals, Value.category]; done) | rfl
def Q_rmOf3 (Z : State) (so : Nat) (tb : Nat) (kb : ClassId) (c0 : Int32) (c1 : Int32) (c2 : Int32) (zc : Int32) (gv : Value) (h0 : Heap) (n0 : Nat) (v : Option Value) (h : Heap) (L : List Loc) : Prop := ∃ (b : Nat), v = some (.ref b) ∧ Fr n0 L ∧ Keep h0 h [] ∧ Exa Z h b "com/example/libtardy/libtardy/QueueName" ∧ Fld Z h b "com/example/libtardy/libtardy/QueueName" "name" "Ljava/lang/String;" (.ref so)
set_option maxRecDepth 65536 in
set_option maxHeartbeats 40000000 in
theorem rmOf3 (l : Launch) (Z : State) (a0 : Array Value) (hw : ∀ d ∈ tables_1, d.before a0 Z = true) (ws : List Jvm.Cond) (so : Nat) (tb : Nat) (kb : ClassId) (c0 : Int32) (c1 : Int32) (c2 : Int32) (zc : Int32) (gv : Value) (h0 : Heap) (n0 : Nat) (Z0 : n0 ≤ h0.size) (P1 : Exa Z h0 so "java/lang/String") (P2 : Fld Z h0 so "java/lang/String" "value" "[B" (.ref tb)) (P3 : Fld Z h0 so "java/lang/String" "coder" "B" (.int (0 : Int32))) (P4 : Arv Z h0 tb kb .byte (3 : Int32) [(.int (c0.toInt8.toInt32)), (.int (c1.toInt8.toInt32)), (.int (c2.toInt8.toInt32))] (.int (0 : Int32))) (OLD : Old Z n0 h0) (P5 : Sta Z Z.heap "java/lang/String" "COMPACT_STRINGS" "Z" (.int zc)) (P6 : Sta Z Z.heap "jdk/internal/util/Preconditions" "SIOOBE_FORMATTER" "Ljava/util/function/BiFunction;" gv) (hzc : ¬ (zc = (0 : Int32))) (hgv : gv.isRef = true) (ok0 : own_ok c0) (ok1 : own_ok c1) (ok2 : own_ok c2) :
    MetFree l (⟨"com/example/libtardy/libtardy/QueueName", "of", "(Ljava/lang/String;)Lcom/example/libtardy/libtardy/QueueName;"⟩ : MethodName) (head1 (Jvm.Cond.code (⟨"com/example/libtardy/libtardy/QueueName", "of", "(Ljava/lang/String;)Lcom/example/libtardy/libtardy/QueueName;"⟩ : MethodName) prog_6_method_2_code 2 (some (.object "com/example/libtardy/libtardy/QueueName")) :: ws) ({ frames := 4, cells := 3, slots := 21, locals := 53 } : Room)) (fun a U => a = #[(.ref so)] ∧ Z.Warmed39 U.vm ∧ U.heap = h0) (fun _ _ _ _ _ => True) (fun _ U o U' => ∃ v L, o = .returned v ∧ Q_rmOf3 Z so tb kb c0 c1 c2 zc gv h0 n0 v U'.heap L ∧ ReturnedEndW U o U' L ({ frames := 4, cells := 3, slots := 21, locals := 53 } : Room).cells ({ frames := 4, cells := 3, slots := 21, locals := 53 } : Room).slots) := by
  refine MetFree.of_bodySF (plainFor_of_name pn_com_example_libtardy_libtardy_QueueName) hisR ?_
  intro p e s m args below meth c s₁ Bd hml0 hP hK
  obtain ⟨rfl, hZ, hh⟩ := hP
  have hx := Bd.exec
  have hby := Bd.bytes
  have hml : c.maxLocals = 2 := hml0
  have hown : s.vm.findClass "com/example/libtardy/libtardy/QueueName" = some m.cls := findClass_of_methodNamed Bd.named
  have hnm := (name_of_methodNamed Bd.named Bd.method).1
  have X0 : Stand p l e ({ frames := 4, cells := 3, slots := 21, locals := 53 } : Room) (s.setVm s.vm) m #[(.ref so)] below meth c s₁ [] 0 0 := Stand.of_body Bd
  have e0 : s₁.heap = h0 := by rw [← hh, Bd.state]; rfl
  have N0 := Fr.nil n0
  have pre0 : ∀ t, Steps p.tables e below (s₁.setTop (mkF m 0 #[.val (.ref so), .unset] [])) t → Steps p.tables e below (s₁.setTop (entryFrame m #[(.ref so)] 2)) t := fun t k => castTop (ef_rmOf3 m so) k
  have hZ : Z.Warmed39 (s.setVm s.vm).vm := hZ
  have hown : (s.setVm s.vm).vm.findClass "com/example/libtardy/libtardy/QueueName" = some m.cls := hown
  have hS : s.Since s.vm 0 := (State.WarmedH.refl s).since 0
  have wS : ∀ a ∈ Bundle.stringAtoms, a.before a0 Z = true := fun d hd => hw d ((by decide +kernel : ∀ d ∈ Bundle.stringAtoms, d ∈ tables_1) d hd)
  have oz := OLD.1
  have lt_so : so < h0.size := P1.lt
  have lt_tb : tb < h0.size := P4.lt
  refine own_go (B := s₁.setTop (mkF m 0 #[.val (.ref so), .unset] [])) pre0 ?_
  show ∃ t o, Steps p.tables e below (s₁.setTop (mkF m 0 #[.val (.ref so), .unset] [])) t ∧ _
  refine own_go (fun _ => XS.aloadN X0.here hx rfl (hb hby d8_0) rfl rfl) ?_
  obtain ⟨a7, T7, h7, kS7, X7, e7, E7, hS, hk7, hZ, hown, st7⟩ := ldcS X0 hx hZ hown (hw _ (List.mem_of_getElem? (i := 39) rfl)) wS e0 hS (Nat.zero_le _) (g := (mkF m 1 #[.val (.ref so), .unset] [(.ref so)])) rfl (hb hby d8_1) (n := 16) (by decide) (by decide) (by decide) (by decide)
  refine own_go st7 ?_
  have K7 : Keep h0 h7 [] := Keep.ext (Keep.refl h0 []) E7
  have le_7 : h0.size ≤ h7.size := E7.1
  show ∃ t o, Steps p.tables e below (T7.setTop (mkF m 3 #[.val (.ref so), .unset] [(.ref a7), (.ref so)])) t ∧ _
  have F8 : Old Z n0 h7 := (OLD.ext E7)
  have zl9 : n0 ≤ h7.size := by omega
  obtain ⟨_, _, ⟨T10, L10, k10, n10⟩, -, X10, ⟨Lc10, hQ10, l10, y10, z10⟩, st10⟩ := Jvm.LawKit.callS X7 hx (y := (⟨"java/util/Objects", "requireNonNull", "(Ljava/lang/Object;Ljava/lang/String;)Ljava/lang/Object;"⟩ : MethodName)) hown (mvT hZ (hw _ (List.mem_of_getElem? (i := 42) rfl))) (mvT hZ (hw _ (List.mem_of_getElem? (i := 43) rfl))) (mvT hZ (hw _ (List.mem_of_getElem? (i := 44) rfl))) (mvT hZ (hw _ (List.mem_of_getElem? (i := 45) rfl))) (by decide) (backOf (W := 0) (rmRnn l Z a0 hw [] so a7 h7 n0 zl9 F8) hZ (hw _ (List.mem_of_getElem? (i := 45) rfl)) (hw _ (List.mem_of_getElem? (i := 44) rfl)) (by decide) (by decide)) (g := (mkF m 3 #[.val (.ref so), .unset] [(.ref a7), (.ref so)])) rfl (by rw [hml]; rfl) (argsL := [(.ref so), (.ref a7)]) (rest := []) (lenOf pd_hb4046d0a rfl) rfl (by show 2 * 0 + _ ≤ _; exact Nat.le_of_eq rfl) (hb hby d8_3) (fun _ _ => ⟨rfl, e7, (by decide : 2 + 0 ≤ _), (by decide : 20 + 0 ≤ _)⟩)
  dsimp only [Pt.U, Pt.locs, Pt.cells, Pt.slots] at X10 l10 y10 z10 st10 hQ10
  subst l10 y10 z10
  obtain ⟨rfl, Nq10, e10⟩ := hQ10
  have N10 := Fr.app N0 Nq10
  refine own_go st10 ?_
  refine own_go (fun _ => XS.pop X10.here hx rfl (hb hby d8_6) rfl rfl) ?_
  refine own_go (fun _ => XS.aloadN X10.here hx rfl (hb hby d8_7) rfl rfl) ?_
  show ∃ t o, Steps p.tables e below (T10.setTop (mkF m 8 #[.val (.ref so), .unset] [(.ref so)])) t ∧ _
  have F11 : Exa Z h7 so "java/lang/String" := (Exa.ext E7 P1)
  have F12 : Fld Z h7 so "java/lang/String" "value" "[B" (.ref tb) := (Fld.ext E7 P2)
  have F13 : Fld Z h7 so "java/lang/String" "coder" "B" (.int (0 : Int32)) := (Fld.ext E7 P3)
  have F14 : Arv Z h7 tb kb .byte (3 : Int32) [(.int (c0.toInt8.toInt32)), (.int (c1.toInt8.toInt32)), (.int (c2.toInt8.toInt32))] (.int (0 : Int32)) := (P4.ext E7)
  obtain ⟨cq15, kq15, q15a, q15b, q15c⟩ := isOf hZ e10 F11
  obtain ⟨_, _, ⟨T15, L15, k15, n15⟩, -, X15, ⟨Lc15, hQ15, l15, y15, z15⟩, st15⟩ := X10.virtualBack hx (y := (⟨"java/lang/String", "isEmpty", "()Z"⟩ : MethodName)) (z := (⟨"java/lang/String", "isEmpty", "()Z"⟩ : MethodName)) hown (mvT hZ (hw _ (List.mem_of_getElem? (i := 46) rfl))) (mvT hZ (hw _ (List.mem_of_getElem? (i := 47) rfl))) (notFace_of_selects (args := #[]) (mvT hZ (hw _ (List.mem_of_getElem? (i := 49) rfl)))) (mvT hZ (hw _ (List.mem_of_getElem? (i := 49) rfl))) (mvT hZ (hw _ (List.mem_of_getElem? (i := 48) rfl))) (by decide) (backOf (W := 0) (rmEmp3 l Z a0 hw [] so tb kb c0 c1 c2 h7 n0 zl9 F11 F12 F13 F14 F8) hZ (hw _ (List.mem_of_getElem? (i := 50) rfl)) (hw _ (List.mem_of_getElem? (i := 7) rfl)) (by decide) (by decide)) q15a q15c (g := (mkF m 8 #[.val (.ref so), .unset] [(.ref so)])) rfl (by rw [hml]; rfl) (Steps.refl _) (argsL := []) (rest := []) (lenOf pd__28_29Z rfl) rfl (by show 2 * 0 + _ ≤ _; exact Nat.le_of_eq rfl) (hb hby d8_8) (fun _ _ => ⟨rfl, e10, (by decide : 2 + 0 ≤ _), (by decide : 20 + 0 ≤ _)⟩)
  dsimp only [Pt.U, Pt.locs, Pt.cells, Pt.slots] at X15 l15 y15 z15 st15 hQ15
  subst l15 y15 z15
  obtain ⟨rfl, Nq15, e15⟩ := hQ15
  have N15 := Fr.app N10 Nq15
  refine own_goT st15 ?_
  show ∃ t o, Steps p.tables e below (T15.setTop (mkF m 11 #[.val (.ref so), .unset] [(.int (0 : Int32))])) t ∧ _
  refine own_go (fun _ => XS.ifNo X15.here hx rfl (hb hby d8_11) rfl ((if0 _ _).trans (teq (by decide : (0 : Int32) = (0 : Int32))).2)) ?_
  refine own_go (fun _ => XS.aloadN X15.here hx rfl (hb hby d8_14) rfl rfl) ?_
  show ∃ t o, Steps p.tables e below (T15.setTop (mkF m 15 #[.val (.ref so), .unset] [(.ref so)])) t ∧ _
  obtain ⟨cq16, kq16, q16a, q16b, q16c⟩ := isOf hZ e15 F11
  obtain ⟨_, _, ⟨T16, L16, k16, n16⟩, -, X16, ⟨Lc16, hQ16, l16, y16, z16⟩, st16⟩ := X15.virtualBack hx (y := (⟨"java/lang/String", "length", "()I"⟩ : MethodName)) (z := (⟨"java/lang/String", "length", "()I"⟩ : MethodName)) hown (mvT hZ (hw _ (List.mem_of_getElem? (i := 51) rfl))) (mvT hZ (hw _ (List.mem_of_getElem? (i := 52) rfl))) (notFace_of_selects (args := #[]) (mvT hZ (hw _ (List.mem_of_getElem? (i := 54) rfl)))) (mvT hZ (hw _ (List.mem_of_getElem? (i := 54) rfl))) (mvT hZ (hw _ (List.mem_of_getElem? (i := 53) rfl))) (by decide) (backOf (W := 0) (rmLen3 l Z a0 hw [] so tb kb c0 c1 c2 zc h7 n0 zl9 F11 F12 F13 F14 F8 P5 hzc) hZ (hw _ (List.mem_of_getElem? (i := 55) rfl)) (hw _ (List.mem_of_getElem? (i := 7) rfl)) (by decide) (by decide)) q16a q16c (g := (mkF m 15 #[.val (.ref so), .unset] [(.ref so)])) rfl (by rw [hml]; rfl) (Steps.refl _) (argsL := []) (rest := []) (lenOf pd__28_29I rfl) rfl (by show 2 * 0 + _ ≤ _; exact Nat.le_of_eq rfl) (hb hby d8_15) (fun _ _ => ⟨rfl, e15, (by decide : 2 + 0 ≤ _), (by decide : 20 + 0 ≤ _)⟩)
  dsimp only [Pt.U, Pt.locs, Pt.cells, Pt.slots] at X16 l16 y16 z16 st16 hQ16
  subst l16 y16 z16
  obtain ⟨rfl, Nq16, e16⟩ := hQ16
  have N16 := Fr.app N15 Nq16
  refine own_goT st16 ?_
  refine own_go (fun _ => XS.bipush X16.here hx rfl (hb hby d8_18)) ?_
  show ∃ t o, Steps p.tables e below (T16.setTop (mkF m 20 #[.val (.ref so), .unset] [(.int (100 : Int32)), (.int (3 : Int32))])) t ∧ _
  refine own_go (fun _ => XS.icmpYes X16.here hx rfl (pc0 := 20) (pc' := 40) rfl (hb hby d8_20) rfl (flt (by decide : ¬ ((100 : Int32) < (3 : Int32)))).2.2.2 (by decide) (by decide)) ?_
  refine own_go (fun _ => XS.iconst X16.here hx rfl (hb hby d8_40)) ?_
  refine own_go (fun _ => XS.istoreN X16.here hx rfl (hb hby d8_41) rfl (l' := #[.val (.ref so), .val (.int (0 : Int32))]) rfl) ?_
  show ∃ t o, Steps p.tables e below (T16.setTop (mkF m 42 #[.val (.ref so), .val (.int (0 : Int32))] [])) t ∧ _
  refine own_go (fun _ => XS.iloadN X16.here hx rfl (hb hby d8_42) rfl) ?_
  refine own_go (fun _ => XS.aloadN X16.here hx rfl (hb hby d8_43) rfl rfl) ?_
  show ∃ t o, Steps p.tables e below (T16.setTop (mkF m 44 #[.val (.ref so), .val (.int (0 : Int32))] [(.ref so), (.int (0 : Int32))])) t ∧ _
  obtain ⟨cq17, kq17, q17a, q17b, q17c⟩ := isOf hZ e16 F11
  obtain ⟨_, _, ⟨T17, L17, k17, n17⟩, -, X17, ⟨Lc17, hQ17, l17, y17, z17⟩, st17⟩ := X16.virtualBack hx (y := (⟨"java/lang/String", "length", "()I"⟩ : MethodName)) (z := (⟨"java/lang/String", "length", "()I"⟩ : MethodName)) hown (mvT hZ (hw _ (List.mem_of_getElem? (i := 51) rfl))) (mvT hZ (hw _ (List.mem_of_getElem? (i := 52) rfl))) (notFace_of_selects (args := #[]) (mvT hZ (hw _ (List.mem_of_getElem? (i := 54) rfl)))) (mvT hZ (hw _ (List.mem_of_getElem? (i := 54) rfl))) (mvT hZ (hw _ (List.mem_of_getElem? (i := 53) rfl))) (by decide) (backOf (W := 1) (rmLen3 l Z a0 hw [] so tb kb c0 c1 c2 zc h7 n0 zl9 F11 F12 F13 F14 F8 P5 hzc) hZ (hw _ (List.mem_of_getElem? (i := 55) rfl)) (hw _ (List.mem_of_getElem? (i := 7) rfl)) (by decide) (by decide)) q17a q17c (g := (mkF m 44 #[.val (.ref so), .val (.int (0 : Int32))] [(.ref so), (.int (0 : Int32))])) rfl (by rw [hml]; rfl) (Steps.refl _) (argsL := []) (rest := [(.int (0 : Int32))]) (lenOf pd__28_29I rfl) rfl (by show 2 * 0 + _ ≤ _; exact Nat.le_of_eq rfl) (hb hby d8_44) (fun _ _ => ⟨rfl, e16, (by decide : 2 + 0 ≤ _), (by decide : 20 + 0 ≤ _)⟩)
  dsimp only [Pt.U, Pt.locs, Pt.cells, Pt.slots] at X17 l17 y17 z17 st17 hQ17
  subst l17 y17 z17
  obtain ⟨rfl, Nq17, e17⟩ := hQ17
  have N17 := Fr.app N16 Nq17
  refine own_goT st17 ?_
  show ∃ t o, Steps p.tables e below (T17.setTop (mkF m 47 #[.val (.ref so), .val (.int (0 : Int32))] [(.int (3 : Int32)), (.int (0 : Int32))])) t ∧ _
  refine own_go (fun _ => XS.icmpNo X17.here hx rfl (hb hby d8_47) rfl (tlt (by decide : (0 : Int32) < (3 : Int32))).2.1) ?_
  refine own_go (fun _ => XS.aloadN X17.here hx rfl (hb hby d8_50) rfl rfl) ?_
  refine own_go (fun _ => XS.iloadN X17.here hx rfl (hb hby d8_51) rfl) ?_
  show ∃ t o, Steps p.tables e below (T17.setTop (mkF m 52 #[.val (.ref so), .val (.int (0 : Int32))] [(.int (0 : Int32)), (.ref so)])) t ∧ _
  obtain ⟨cq18, kq18, q18a, q18b, q18c⟩ := isOf hZ e17 F11
  obtain ⟨_, _, ⟨T18, L18, k18, n18⟩, -, X18, ⟨Lc18, hQ18, l18, y18, z18⟩, st18⟩ := X17.virtualBack hx (y := (⟨"java/lang/String", "charAt", "(I)C"⟩ : MethodName)) (z := (⟨"java/lang/String", "charAt", "(I)C"⟩ : MethodName)) hown (mvT hZ (hw _ (List.mem_of_getElem? (i := 61) rfl))) (mvT hZ (hw _ (List.mem_of_getElem? (i := 62) rfl))) (notFace_of_selects (args := #[]) (mvT hZ (hw _ (List.mem_of_getElem? (i := 64) rfl)))) (mvT hZ (hw _ (List.mem_of_getElem? (i := 64) rfl))) (mvT hZ (hw _ (List.mem_of_getElem? (i := 63) rfl))) (by decide) (backOf (W := 0) (rmCh3_0 l Z a0 hw [] so tb kb c0 c1 c2 zc gv h7 n0 zl9 F11 F12 F13 F14 F8 P5 P6 hzc hgv (own_okrg ok0 : own_rg c0)) hZ (hw _ (List.mem_of_getElem? (i := 65) rfl)) (hw _ (List.mem_of_getElem? (i := 7) rfl)) (by decide) (by decide)) q18a q18c (g := (mkF m 52 #[.val (.ref so), .val (.int (0 : Int32))] [(.int (0 : Int32)), (.ref so)])) rfl (by rw [hml]; rfl) (Steps.refl _) (argsL := [(.int (0 : Int32))]) (rest := []) (lenOf pd__28I_29C rfl) rfl (by show 2 * 0 + _ ≤ _; exact Nat.le_of_eq rfl) (hb hby d8_52) (fun _ _ => ⟨rfl, e17, (by decide : 2 + 0 ≤ _), (by decide : 20 + 0 ≤ _)⟩)
  dsimp only [Pt.U, Pt.locs, Pt.cells, Pt.slots] at X18 l18 y18 z18 st18 hQ18
  subst l18 y18 z18
  obtain ⟨rfl, Nq18, e18⟩ := hQ18
  have N18 := Fr.app N17 Nq18
  refine own_goT st18 ?_
  show ∃ t o, Steps p.tables e below (T18.setTop (mkF m 55 #[.val (.ref so), .val (.int (0 : Int32))] [(.int c0)])) t ∧ _
  obtain ⟨_, _, ⟨T19, L19, k19, n19⟩, -, X19, ⟨Lc19, hQ19, l19, y19, z19⟩, st19⟩ := Jvm.LawKit.callS X18 hx (y := (⟨"com/example/libtardy/libtardy/QueueName", "isAllowed", "(C)Z"⟩ : MethodName)) hown (mvT hZ (hw _ (List.mem_of_getElem? (i := 83) rfl))) (mvT hZ (hw _ (List.mem_of_getElem? (i := 84) rfl))) (mvT hZ (hw _ (List.mem_of_getElem? (i := 37) rfl))) (mvT hZ (hw _ (List.mem_of_getElem? (i := 85) rfl))) (by decide) (backOf (W := 0) (rmIs l Z a0 hw [] c0 h7 n0 zl9 F8 (ok0 : own_ok c0)) hZ (hw _ (List.mem_of_getElem? (i := 85) rfl)) (hw _ (List.mem_of_getElem? (i := 37) rfl)) (by decide) (by decide)) (g := (mkF m 55 #[.val (.ref so), .val (.int (0 : Int32))] [(.int c0)])) rfl (by rw [hml]; rfl) (argsL := [(.int c0)]) (rest := []) (lenOf pd__28C_29Z rfl) rfl (by show 2 * 0 + _ ≤ _; exact Nat.le_of_eq rfl) (hb hby d8_55) (fun _ _ => ⟨rfl, e18, (by decide : 2 + 0 ≤ _), (by decide : 20 + 0 ≤ _)⟩)
  dsimp only [Pt.U, Pt.locs, Pt.cells, Pt.slots] at X19 l19 y19 z19 st19 hQ19
  subst l19 y19 z19
  obtain ⟨rfl, Nq19, e19⟩ := hQ19
  have N19 := Fr.app N18 Nq19
  refine own_go st19 ?_
  show ∃ t o, Steps p.tables e below (T19.setTop (mkF m 58 #[.val (.ref so), .val (.int (0 : Int32))] [(.int (1 : Int32))])) t ∧ _
  refine own_go (fun _ => XS.ifYes X19.here hx rfl (pc0 := 58) (pc' := 96) rfl (hb hby d8_58) rfl ((if0 _ _).trans (feq (by decide : ¬ ((1 : Int32) = (0 : Int32)))).2) (by decide) (by decide)) ?_
  refine own_go (fun _ => XS.iinc X19.here hx rfl (hb hby d8_96) rfl (l' := #[.val (.ref so), .val (.int (1 : Int32))]) rfl) ?_
  refine own_go (fun _ => XS.goto X19.here hx rfl (pc0 := 99) (pc' := 42) rfl (hb hby d8_99) (by decide) (by decide)) ?_
  show ∃ t o, Steps p.tables e below (T19.setTop (mkF m 42 #[.val (.ref so), .val (.int (1 : Int32))] [])) t ∧ _
  refine own_go (fun _ => XS.iloadN X19.here hx rfl (hb hby d8_42) rfl) ?_
  refine own_go (fun _ => XS.aloadN X19.here hx rfl (hb hby d8_43) rfl rfl) ?_
  show ∃ t o, Steps p.tables e below (T19.setTop (mkF m 44 #[.val (.ref so), .val (.int (1 : Int32))] [(.ref so), (.int (1 : Int32))])) t ∧ _
  obtain ⟨cq20, kq20, q20a, q20b, q20c⟩ := isOf hZ e19 F11
  obtain ⟨_, _, ⟨T20, L20, k20, n20⟩, -, X20, ⟨Lc20, hQ20, l20, y20, z20⟩, st20⟩ := X19.virtualBack hx (y := (⟨"java/lang/String", "length", "()I"⟩ : MethodName)) (z := (⟨"java/lang/String", "length", "()I"⟩ : MethodName)) hown (mvT hZ (hw _ (List.mem_of_getElem? (i := 51) rfl))) (mvT hZ (hw _ (List.mem_of_getElem? (i := 52) rfl))) (notFace_of_selects (args := #[]) (mvT hZ (hw _ (List.mem_of_getElem? (i := 54) rfl)))) (mvT hZ (hw _ (List.mem_of_getElem? (i := 54) rfl))) (mvT hZ (hw _ (List.mem_of_getElem? (i := 53) rfl))) (by decide) (backOf (W := 1) (rmLen3 l Z a0 hw [] so tb kb c0 c1 c2 zc h7 n0 zl9 F11 F12 F13 F14 F8 P5 hzc) hZ (hw _ (List.mem_of_getElem? (i := 55) rfl)) (hw _ (List.mem_of_getElem? (i := 7) rfl)) (by decide) (by decide)) q20a q20c (g := (mkF m 44 #[.val (.ref so), .val (.int (1 : Int32))] [(.ref so), (.int (1 : Int32))])) rfl (by rw [hml]; rfl) (Steps.refl _) (argsL := []) (rest := [(.int (1 : Int32))]) (lenOf pd__28_29I rfl) rfl (by show 2 * 0 + _ ≤ _; exact Nat.le_of_eq rfl) (hb hby d8_44) (fun _ _ => ⟨rfl, e19, (by decide : 2 + 0 ≤ _), (by decide : 20 + 0 ≤ _)⟩)
  dsimp only [Pt.U, Pt.locs, Pt.cells, Pt.slots] at X20 l20 y20 z20 st20 hQ20
  subst l20 y20 z20
  obtain ⟨rfl, Nq20, e20⟩ := hQ20
  have N20 := Fr.app N19 Nq20
  refine own_goT st20 ?_
  show ∃ t o, Steps p.tables e below (T20.setTop (mkF m 47 #[.val (.ref so), .val (.int (1 : Int32))] [(.int (3 : Int32)), (.int (1 : Int32))])) t ∧ _
  refine own_go (fun _ => XS.icmpNo X20.here hx rfl (hb hby d8_47) rfl (tlt (by decide : (1 : Int32) < (3 : Int32))).2.1) ?_
  refine own_go (fun _ => XS.aloadN X20.here hx rfl (hb hby d8_50) rfl rfl) ?_
  refine own_go (fun _ => XS.iloadN X20.here hx rfl (hb hby d8_51) rfl) ?_
  show ∃ t o, Steps p.tables e below (T20.setTop (mkF m 52 #[.val (.ref so), .val (.int (1 : Int32))] [(.int (1 : Int32)), (.ref so)])) t ∧ _
  obtain ⟨cq21, kq21, q21a, q21b, q21c⟩ := isOf hZ e20 F11
  obtain ⟨_, _, ⟨T21, L21, k21, n21⟩, -, X21, ⟨Lc21, hQ21, l21, y21, z21⟩, st21⟩ := X20.virtualBack hx (y := (⟨"java/lang/String", "charAt", "(I)C"⟩ : MethodName)) (z := (⟨"java/lang/String", "charAt", "(I)C"⟩ : MethodName)) hown (mvT hZ (hw _ (List.mem_of_getElem? (i := 61) rfl))) (mvT hZ (hw _ (List.mem_of_getElem? (i := 62) rfl))) (notFace_of_selects (args := #[]) (mvT hZ (hw _ (List.mem_of_getElem? (i := 64) rfl)))) (mvT hZ (hw _ (List.mem_of_getElem? (i := 64) rfl))) (mvT hZ (hw _ (List.mem_of_getElem? (i := 63) rfl))) (by decide) (backOf (W := 0) (rmCh3_1 l Z a0 hw [] so tb kb c0 c1 c2 zc gv h7 n0 zl9 F11 F12 F13 F14 F8 P5 P6 hzc hgv (own_okrg ok1 : own_rg c1)) hZ (hw _ (List.mem_of_getElem? (i := 65) rfl)) (hw _ (List.mem_of_getElem? (i := 7) rfl)) (by decide) (by decide)) q21a q21c (g := (mkF m 52 #[.val (.ref so), .val (.int (1 : Int32))] [(.int (1 : Int32)), (.ref so)])) rfl (by rw [hml]; rfl) (Steps.refl _) (argsL := [(.int (1 : Int32))]) (rest := []) (lenOf pd__28I_29C rfl) rfl (by show 2 * 0 + _ ≤ _; exact Nat.le_of_eq rfl) (hb hby d8_52) (fun _ _ => ⟨rfl, e20, (by decide : 2 + 0 ≤ _), (by decide : 20 + 0 ≤ _)⟩)
  dsimp only [Pt.U, Pt.locs, Pt.cells, Pt.slots] at X21 l21 y21 z21 st21 hQ21
  subst l21 y21 z21
  obtain ⟨rfl, Nq21, e21⟩ := hQ21
  have N21 := Fr.app N20 Nq21
  refine own_goT st21 ?_
  show ∃ t o, Steps p.tables e below (T21.setTop (mkF m 55 #[.val (.ref so), .val (.int (1 : Int32))] [(.int c1)])) t ∧ _
  obtain ⟨_, _, ⟨T22, L22, k22, n22⟩, -, X22, ⟨Lc22, hQ22, l22, y22, z22⟩, st22⟩ := Jvm.LawKit.callS X21 hx (y := (⟨"com/example/libtardy/libtardy/QueueName", "isAllowed", "(C)Z"⟩ : MethodName)) hown (mvT hZ (hw _ (List.mem_of_getElem? (i := 83) rfl))) (mvT hZ (hw _ (List.mem_of_getElem? (i := 84) rfl))) (mvT hZ (hw _ (List.mem_of_getElem? (i := 37) rfl))) (mvT hZ (hw _ (List.mem_of_getElem? (i := 85) rfl))) (by decide) (backOf (W := 0) (rmIs l Z a0 hw [] c1 h7 n0 zl9 F8 (ok1 : own_ok c1)) hZ (hw _ (List.mem_of_getElem? (i := 85) rfl)) (hw _ (List.mem_of_getElem? (i := 37) rfl)) (by decide) (by decide)) (g := (mkF m 55 #[.val (.ref so), .val (.int (1 : Int32))] [(.int c1)])) rfl (by rw [hml]; rfl) (argsL := [(.int c1)]) (rest := []) (lenOf pd__28C_29Z rfl) rfl (by show 2 * 0 + _ ≤ _; exact Nat.le_of_eq rfl) (hb hby d8_55) (fun _ _ => ⟨rfl, e21, (by decide : 2 + 0 ≤ _), (by decide : 20 + 0 ≤ _)⟩)
  dsimp only [Pt.U, Pt.locs, Pt.cells, Pt.slots] at X22 l22 y22 z22 st22 hQ22
  subst l22 y22 z22
  obtain ⟨rfl, Nq22, e22⟩ := hQ22
  have N22 := Fr.app N21 Nq22
  refine own_go st22 ?_
  show ∃ t o, Steps p.tables e below (T22.setTop (mkF m 58 #[.val (.ref so), .val (.int (1 : Int32))] [(.int (1 : Int32))])) t ∧ _
  refine own_go (fun _ => XS.ifYes X22.here hx rfl (pc0 := 58) (pc' := 96) rfl (hb hby d8_58) rfl ((if0 _ _).trans (feq (by decide : ¬ ((1 : Int32) = (0 : Int32)))).2) (by decide) (by decide)) ?_
  refine own_go (fun _ => XS.iinc X22.here hx rfl (hb hby d8_96) rfl (l' := #[.val (.ref so), .val (.int (2 : Int32))]) rfl) ?_
  refine own_go (fun _ => XS.goto X22.here hx rfl (pc0 := 99) (pc' := 42) rfl (hb hby d8_99) (by decide) (by decide)) ?_
  show ∃ t o, Steps p.tables e below (T22.setTop (mkF m 42 #[.val (.ref so), .val (.int (2 : Int32))] [])) t ∧ _
  refine own_go (fun _ => XS.iloadN X22.here hx rfl (hb hby d8_42) rfl) ?_
  refine own_go (fun _ => XS.aloadN X22.here hx rfl (hb hby d8_43) rfl rfl) ?_
  show ∃ t o, Steps p.tables e below (T22.setTop (mkF m 44 #[.val (.ref so), .val (.int (2 : Int32))] [(.ref so), (.int (2 : Int32))])) t ∧ _
  obtain ⟨cq23, kq23, q23a, q23b, q23c⟩ := isOf hZ e22 F11
  obtain ⟨_, _, ⟨T23, L23, k23, n23⟩, -, X23, ⟨Lc23, hQ23, l23, y23, z23⟩, st23⟩ := X22.virtualBack hx (y := (⟨"java/lang/String", "length", "()I"⟩ : MethodName)) (z := (⟨"java/lang/String", "length", "()I"⟩ : MethodName)) hown (mvT hZ (hw _ (List.mem_of_getElem? (i := 51) rfl))) (mvT hZ (hw _ (List.mem_of_getElem? (i := 52) rfl))) (notFace_of_selects (args := #[]) (mvT hZ (hw _ (List.mem_of_getElem? (i := 54) rfl)))) (mvT hZ (hw _ (List.mem_of_getElem? (i := 54) rfl))) (mvT hZ (hw _ (List.mem_of_getElem? (i := 53) rfl))) (by decide) (backOf (W := 1) (rmLen3 l Z a0 hw [] so tb kb c0 c1 c2 zc h7 n0 zl9 F11 F12 F13 F14 F8 P5 hzc) hZ (hw _ (List.mem_of_getElem? (i := 55) rfl)) (hw _ (List.mem_of_getElem? (i := 7) rfl)) (by decide) (by decide)) q23a q23c (g := (mkF m 44 #[.val (.ref so), .val (.int (2 : Int32))] [(.ref so), (.int (2 : Int32))])) rfl (by rw [hml]; rfl) (Steps.refl _) (argsL := []) (rest := [(.int (2 : Int32))]) (lenOf pd__28_29I rfl) rfl (by show 2 * 0 + _ ≤ _; exact Nat.le_of_eq rfl) (hb hby d8_44) (fun _ _ => ⟨rfl, e22, (by decide : 2 + 0 ≤ _), (by decide : 20 + 0 ≤ _)⟩)
  dsimp only [Pt.U, Pt.locs, Pt.cells, Pt.slots] at X23 l23 y23 z23 st23 hQ23
  subst l23 y23 z23
  obtain ⟨rfl, Nq23, e23⟩ := hQ23
  have N23 := Fr.app N22 Nq23
  refine own_goT st23 ?_
  show ∃ t o, Steps p.tables e below (T23.setTop (mkF m 47 #[.val (.ref so), .val (.int (2 : Int32))] [(.int (3 : Int32)), (.int (2 : Int32))])) t ∧ _
  refine own_go (fun _ => XS.icmpNo X23.here hx rfl (hb hby d8_47) rfl (tlt (by decide : (2 : Int32) < (3 : Int32))).2.1) ?_
  refine own_go (fun _ => XS.aloadN X23.here hx rfl (hb hby d8_50) rfl rfl) ?_
  refine own_go (fun _ => XS.iloadN X23.here hx rfl (hb hby d8_51) rfl) ?_
  show ∃ t o, Steps p.tables e below (T23.setTop (mkF m 52 #[.val (.ref so), .val (.int (2 : Int32))] [(.int (2 : Int32)), (.ref so)])) t ∧ _
  obtain ⟨cq24, kq24, q24a, q24b, q24c⟩ := isOf hZ e23 F11
  obtain ⟨_, _, ⟨T24, L24, k24, n24⟩, -, X24, ⟨Lc24, hQ24, l24, y24, z24⟩, st24⟩ := X23.virtualBack hx (y := (⟨"java/lang/String", "charAt", "(I)C"⟩ : MethodName)) (z := (⟨"java/lang/String", "charAt", "(I)C"⟩ : MethodName)) hown (mvT hZ (hw _ (List.mem_of_getElem? (i := 61) rfl))) (mvT hZ (hw _ (List.mem_of_getElem? (i := 62) rfl))) (notFace_of_selects (args := #[]) (mvT hZ (hw _ (List.mem_of_getElem? (i := 64) rfl)))) (mvT hZ (hw _ (List.mem_of_getElem? (i := 64) rfl))) (mvT hZ (hw _ (List.mem_of_getElem? (i := 63) rfl))) (by decide) (backOf (W := 0) (rmCh3_2 l Z a0 hw [] so tb kb c0 c1 c2 zc gv h7 n0 zl9 F11 F12 F13 F14 F8 P5 P6 hzc hgv (own_okrg ok2 : own_rg c2)) hZ (hw _ (List.mem_of_getElem? (i := 65) rfl)) (hw _ (List.mem_of_getElem? (i := 7) rfl)) (by decide) (by decide)) q24a q24c (g := (mkF m 52 #[.val (.ref so), .val (.int (2 : Int32))] [(.int (2 : Int32)), (.ref so)])) rfl (by rw [hml]; rfl) (Steps.refl _) (argsL := [(.int (2 : Int32))]) (rest := []) (lenOf pd__28I_29C rfl) rfl (by show 2 * 0 + _ ≤ _; exact Nat.le_of_eq rfl) (hb hby d8_52) (fun _ _ => ⟨rfl, e23, (by decide : 2 + 0 ≤ _), (by decide : 20 + 0 ≤ _)⟩)
  dsimp only [Pt.U, Pt.locs, Pt.cells, Pt.slots] at X24 l24 y24 z24 st24 hQ24
  subst l24 y24 z24
  obtain ⟨rfl, Nq24, e24⟩ := hQ24
  have N24 := Fr.app N23 Nq24
  refine own_goT st24 ?_
  show ∃ t o, Steps p.tables e below (T24.setTop (mkF m 55 #[.val (.ref so), .val (.int (2 : Int32))] [(.int c2)])) t ∧ _
  obtain ⟨_, _, ⟨T25, L25, k25, n25⟩, -, X25, ⟨Lc25, hQ25, l25, y25, z25⟩, st25⟩ := Jvm.LawKit.callS X24 hx (y := (⟨"com/example/libtardy/libtardy/QueueName", "isAllowed", "(C)Z"⟩ : MethodName)) hown (mvT hZ (hw _ (List.mem_of_getElem? (i := 83) rfl))) (mvT hZ (hw _ (List.mem_of_getElem? (i := 84) rfl))) (mvT hZ (hw _ (List.mem_of_getElem? (i := 37) rfl))) (mvT hZ (hw _ (List.mem_of_getElem? (i := 85) rfl))) (by decide) (backOf (W := 0) (rmIs l Z a0 hw [] c2 h7 n0 zl9 F8 (ok2 : own_ok c2)) hZ (hw _ (List.mem_of_getElem? (i := 85) rfl)) (hw _ (List.mem_of_getElem? (i := 37) rfl)) (by decide) (by decide)) (g := (mkF m 55 #[.val (.ref so), .val (.int (2 : Int32))] [(.int c2)])) rfl (by rw [hml]; rfl) (argsL := [(.int c2)]) (rest := []) (lenOf pd__28C_29Z rfl) rfl (by show 2 * 0 + _ ≤ _; exact Nat.le_of_eq rfl) (hb hby d8_55) (fun _ _ => ⟨rfl, e24, (by decide : 2 + 0 ≤ _), (by decide : 20 + 0 ≤ _)⟩)
  dsimp only [Pt.U, Pt.locs, Pt.cells, Pt.slots] at X25 l25 y25 z25 st25 hQ25
  subst l25 y25 z25
  obtain ⟨rfl, Nq25, e25⟩ := hQ25
  have N25 := Fr.app N24 Nq25
  refine own_go st25 ?_
  show ∃ t o, Steps p.tables e below (T25.setTop (mkF m 58 #[.val (.ref so), .val (.int (2 : Int32))] [(.int (1 : Int32))])) t ∧ _
  refine own_go (fun _ => XS.ifYes X25.here hx rfl (pc0 := 58) (pc' := 96) rfl (hb hby d8_58) rfl ((if0 _ _).trans (feq (by decide : ¬ ((1 : Int32) = (0 : Int32)))).2) (by decide) (by decide)) ?_
  refine own_go (fun _ => XS.iinc X25.here hx rfl (hb hby d8_96) rfl (l' := #[.val (.ref so), .val (.int (3 : Int32))]) rfl) ?_
  refine own_go (fun _ => XS.goto X25.here hx rfl (pc0 := 99) (pc' := 42) rfl (hb hby d8_99) (by decide) (by decide)) ?_
  show ∃ t o, Steps p.tables e below (T25.setTop (mkF m 42 #[.val (.ref so), .val (.int (3 : Int32))] [])) t ∧ _
  refine own_go (fun _ => XS.iloadN X25.here hx rfl (hb hby d8_42) rfl) ?_
  refine own_go (fun _ => XS.aloadN X25.here hx rfl (hb hby d8_43) rfl rfl) ?_
  show ∃ t o, Steps p.tables e below (T25.setTop (mkF m 44 #[.val (.ref so), .val (.int (3 : Int32))] [(.ref so), (.int (3 : Int32))])) t ∧ _
  obtain ⟨cq26, kq26, q26a, q26b, q26c⟩ := isOf hZ e25 F11
  obtain ⟨_, _, ⟨T26, L26, k26, n26⟩, -, X26, ⟨Lc26, hQ26, l26, y26, z26⟩, st26⟩ := X25.virtualBack hx (y := (⟨"java/lang/String", "length", "()I"⟩ : MethodName)) (z := (⟨"java/lang/String", "length", "()I"⟩ : MethodName)) hown (mvT hZ (hw _ (List.mem_of_getElem? (i := 51) rfl))) (mvT hZ (hw _ (List.mem_of_getElem? (i := 52) rfl))) (notFace_of_selects (args := #[]) (mvT hZ (hw _ (List.mem_of_getElem? (i := 54) rfl)))) (mvT hZ (hw _ (List.mem_of_getElem? (i := 54) rfl))) (mvT hZ (hw _ (List.mem_of_getElem? (i := 53) rfl))) (by decide) (backOf (W := 1) (rmLen3 l Z a0 hw [] so tb kb c0 c1 c2 zc h7 n0 zl9 F11 F12 F13 F14 F8 P5 hzc) hZ (hw _ (List.mem_of_getElem? (i := 55) rfl)) (hw _ (List.mem_of_getElem? (i := 7) rfl)) (by decide) (by decide)) q26a q26c (g := (mkF m 44 #[.val (.ref so), .val (.int (3 : Int32))] [(.ref so), (.int (3 : Int32))])) rfl (by rw [hml]; rfl) (Steps.refl _) (argsL := []) (rest := [(.int (3 : Int32))]) (lenOf pd__28_29I rfl) rfl (by show 2 * 0 + _ ≤ _; exact Nat.le_of_eq rfl) (hb hby d8_44) (fun _ _ => ⟨rfl, e25, (by decide : 2 + 0 ≤ _), (by decide : 20 + 0 ≤ _)⟩)
  dsimp only [Pt.U, Pt.locs, Pt.cells, Pt.slots] at X26 l26 y26 z26 st26 hQ26
  subst l26 y26 z26
  obtain ⟨rfl, Nq26, e26⟩ := hQ26
  have N26 := Fr.app N25 Nq26
  refine own_goT st26 ?_
  show ∃ t o, Steps p.tables e below (T26.setTop (mkF m 47 #[.val (.ref so), .val (.int (3 : Int32))] [(.int (3 : Int32)), (.int (3 : Int32))])) t ∧ _
  refine own_go (fun _ => XS.icmpYes X26.here hx rfl (pc0 := 47) (pc' := 102) rfl (hb hby d8_47) rfl (flt (by decide : ¬ ((3 : Int32) < (3 : Int32)))).2.1 (by decide) (by decide)) ?_
  show ∃ t o, Steps p.tables e below (T26.setTop (mkF m 102 #[.val (.ref so), .val (.int (3 : Int32))] [])) t ∧ _
  obtain ⟨T27, h27, X27, e27, E27, A27, D27, -, st27⟩ := newO X26 hx hZ hown (hw _ (List.mem_of_getElem? (i := 86) rfl)) (hw _ (List.mem_of_getElem? (i := 87) rfl)) (hw _ (List.mem_of_getElem? (i := 37) rfl)) e26 (g := (mkF m 102 #[.val (.ref so), .val (.int (3 : Int32))] [])) rfl (hb hby d8_102) (by decide) (by decide)
  obtain ⟨b27, g27⟩ : ∃ z, z = h7.size := ⟨_, rfl⟩
  rw [← g27] at A27 D27 st27
  refine own_go st27 ?_
  have le_27 : h7.size ≤ h27.size := E27.1
  have lt_b27 : b27 < h27.size := A27.lt
  have F_name_b27 : Fld Z h27 b27 "com/example/libtardy/libtardy/QueueName" "name" "Ljava/lang/String;" .null := D27 (Or.inr (hw _ (List.mem_of_getElem? (i := 93) rfl))) (ty := (.object "java/lang/String")) (by decide)
  have K27 : Keep h0 h27 [] := Keep.ext K7 E27
  refine own_go (fun _ => XS.dup X27.here hx rfl (hb hby d8_105) rfl rfl) ?_
  refine own_go (fun _ => XS.aloadN X27.here hx rfl (hb hby d8_106) rfl rfl) ?_
  show ∃ t o, Steps p.tables e below (T27.setTop (mkF m 107 #[.val (.ref so), .val (.int (3 : Int32))] [(.ref so), (.ref b27), (.ref b27)])) t ∧ _
  have F28 : Old Z n0 h27 := (F8.ext E27)
  have ge29 : n0 ≤ b27 := by omega
  have zl30 : n0 ≤ h27.size := by omega
  obtain ⟨_, _, ⟨T31, L31, k31, n31⟩, -, X31, ⟨Lc31, hQ31, l31, y31, z31⟩, st31⟩ := X27.specialBack hx (y := (⟨"com/example/libtardy/libtardy/QueueName", "<init>", "(Ljava/lang/String;)V"⟩ : MethodName)) rfl hown (mvT hZ (hw _ (List.mem_of_getElem? (i := 88) rfl))) (mvT hZ (hw _ (List.mem_of_getElem? (i := 89) rfl))) (mvT hZ (hw _ (List.mem_of_getElem? (i := 90) rfl))) (by decide) (backOf (W := 1) (rmInit l Z a0 hw [] b27 so h27 n0 zl30 A27 F_name_b27 F28 ge29) hZ (hw _ (List.mem_of_getElem? (i := 90) rfl)) (hw _ (List.mem_of_getElem? (i := 37) rfl)) (by decide) (by decide)) (g := (mkF m 107 #[.val (.ref so), .val (.int (3 : Int32))] [(.ref so), (.ref b27), (.ref b27)])) rfl (by rw [hml]; rfl) (Steps.refl _) (a := b27) (argsL := [(.ref so)]) (rest := [(.ref b27)]) (lenOf pd__28Ljava_2flang_2fString_3b_29V rfl) rfl (by show 2 * 0 + _ ≤ _; exact Nat.le_of_eq rfl) (hb hby d8_107) (fun _ _ => ⟨rfl, e27, (by decide : 3 + 0 ≤ _), (by decide : 21 + 0 ≤ _)⟩)
  dsimp only [Pt.U, Pt.locs, Pt.cells, Pt.slots] at X31 l31 y31 z31 st31 hQ31
  subst l31 y31 z31
  obtain ⟨rfl, Nq31, Kp31, G31_0, G31_1⟩ := hQ31
  have N31 := Fr.app N26 Nq31
  refine own_goT st31 ?_
  have le_31 : h27.size ≤ T31.heap.size := Kp31.1
  have sz32 : h0.size ≤ b27 := by omega
  have K31 : Keep h0 T31.heap [] := Keep.trans K27 Kp31 (allS (Or.inr sz32) all0)
  show ∃ t o, Steps p.tables e below (T31.setTop (mkF m 110 #[.val (.ref so), .val (.int (3 : Int32))] [(.ref b27)])) t ∧ _
  obtain ⟨fs, hr, hrun, hended, hW⟩ := Jvm.Stand.leaveW X31 hS (by omega) (v := some (.ref b27)) (fun h => by rw [Bd.returns] at h; cases h)
  refine ⟨_, _, ?_, hrun, hended, _, _, rfl, ?_, ⟨hW.1, hW.2.1, hW.2.2.1, hW.2.2.2.mono (by decide) (by decide)⟩⟩
  · jvm_step X31.here [X31.here.top, hx, (hb hby d8_110), X31.method', Bd.returns, Value.isRef, FieldType.isReference]
    first | (intro acts; rw [hr _ acts rfl rfl rfl]) | rw [hr _ _ rfl rfl rfl]
    exact Steps.refl _
  · show Q_rmOf3 Z _ _ _ _ _ _ _ _ h0 n0 _ T31.heap _
    exact ⟨b27, rfl, N31, K31, G31_0, G31_1⟩
theorem ef_rmLen4 (m : MethodId) (x0 : Nat) : entryFrame m #[(.ref x0)] 1 = mkF m 0 #[.val (.ref x0)] [] := by first | (simp [entryFrame, mkF, argsToLocals, Value.category]; done) | rfl
def Q_rmLen4 (Z : State) (so : Nat) (tb : Nat) (kb : ClassId) (c0 : Int32) (c1 : Int32) (c2 : Int32) (c3 : Int32) (zc : Int32) (h0 : Heap) (n0 : Nat) (v : Option Value) (h : Heap) (L : List Loc) : Prop := v = some (.int (4 : Int32)) ∧ Fr n0 L ∧ h = h0
set_option maxRecDepth 65536 in
set_option maxHeartbeats 40000000 in
theorem rmLen4 (l : Launch) (Z : State) (a0 : Array Value) (hw : ∀ d ∈ tables_1, d.before a0 Z = true) (ws : List Jvm.Cond) (so : Nat) (tb : Nat) (kb : ClassId) (c0 : Int32) (c1 : Int32) (c2 : Int32) (c3 : Int32) (zc : Int32) (h0 : Heap) (n0 : Nat) (Z0 : n0 ≤ h0.size) (P1 : Exa Z h0 so "java/lang/String") (P2 : Fld Z h0 so "java/lang/String" "value" "[B" (.ref tb)) (P3 : Fld Z h0 so "java/lang/String" "coder" "B" (.int (0 : Int32))) (P4 : Arv Z h0 tb kb .byte (4 : Int32) [(.int (c0.toInt8.toInt32)), (.int (c1.toInt8.toInt32)), (.int (c2.toInt8.toInt32)), (.int (c3.toInt8.toInt32))] (.int (0 : Int32))) (OLD : Old Z n0 h0) (P5 : Sta Z Z.heap "java/lang/String" "COMPACT_STRINGS" "Z" (.int zc)) (hzc : ¬ (zc = (0 : Int32))) :
    MetFree l (⟨"java/lang/String", "length", "()I"⟩ : MethodName) (head1 (Jvm.Cond.code (⟨"java/lang/String", "length", "()I"⟩ : MethodName) jdk_42_method_54_code 1 (some .int) :: ws) ({ frames := 1, cells := 0, slots := 0, locals := 13 } : Room)) (fun a U => a = #[(.ref so)] ∧ Z.Warmed39 U.vm ∧ U.heap = h0) (fun _ _ _ _ _ => True) (fun _ U o U' => ∃ v L, o = .returned v ∧ Q_rmLen4 Z so tb kb c0 c1 c2 c3 zc h0 n0 v U'.heap L ∧ FrameEnd U o U' L ({ frames := 1, cells := 0, slots := 0, locals := 13 } : Room).cells ({ frames := 1, cells := 0, slots := 0, locals := 13 } : Room).slots) := by
  refine MetFree.of_bodySF (plainFor_of_name pn_java_lang_String) hisR ?_
  intro p e s m args below meth c s₁ Bd hml0 hP hK
  obtain ⟨rfl, hZ, hh⟩ := hP
  have hx := Bd.exec
  have hby := Bd.bytes
  have hml : c.maxLocals = 1 := hml0
  have hown : s.vm.findClass "java/lang/String" = some m.cls := findClass_of_methodNamed Bd.named
  have hnm := (name_of_methodNamed Bd.named Bd.method).1
  have X0 : Stand p l e ({ frames := 1, cells := 0, slots := 0, locals := 13 } : Room) s m #[(.ref so)] below meth c s₁ [] 0 0 := Stand.of_body Bd
  have e0 : s₁.heap = h0 := by rw [← hh, Bd.state]; rfl
  have N0 := Fr.nil n0
  have pre0 : ∀ t, Steps p.tables e below (s₁.setTop (mkF m 0 #[.val (.ref so)] [])) t → Steps p.tables e below (s₁.setTop (entryFrame m #[(.ref so)] 1)) t := fun t k => castTop (ef_rmLen4 m so) k
  have oz := OLD.1
  have lt_so : so < h0.size := P1.lt
  have lt_tb : tb < h0.size := P4.lt
  refine own_go (B := s₁.setTop (mkF m 0 #[.val (.ref so)] [])) pre0 ?_
  show ∃ t o, Steps p.tables e below (s₁.setTop (mkF m 0 #[.val (.ref so)] [])) t ∧ _
  refine own_go (fun _ => XS.aloadN X0.here hx rfl (hb hby d11_0) rfl rfl) ?_
  obtain ⟨T6, X6, e6, st6⟩ := getF X0 hx hZ hown (host := "") (Or.inl (hw _ (List.mem_of_getElem? (i := 33) rfl))) Via.refl e0 P2 (g := (mkF m 1 #[.val (.ref so)] [(.ref so)])) rfl rfl (hb hby d11_1)
  refine own_go st6 ?_
  obtain ⟨cl7, Ar7, q7, S7, N7, H7, G7⟩ := id P4
  have ln7 : cl7.slots.size.toInt32 = (4 : Int32) := len_of S7 N7
  have al7 := X6.arraylength hx (by rw [e6]; exact Ar7.1) (State.isArrayOf_alike hZ.alike Ar7.2.1) (g := (mkF m 4 #[.val (.ref so)] [(.ref tb)])) rfl rfl (hb hby d11_4)
  rw [ln7] at al7
  refine own_go al7 ?_
  show ∃ t o, Steps p.tables e below (T6.setTop (mkF m 5 #[.val (.ref so)] [(.int (4 : Int32))])) t ∧ _
  refine own_go (fun _ => XS.aloadN X6.here hx rfl (hb hby d11_5) rfl rfl) ?_
  show ∃ t o, Steps p.tables e below (T6.setTop (mkF m 6 #[.val (.ref so)] [(.ref so), (.int (4 : Int32))])) t ∧ _
  obtain ⟨cq8, kq8, q8a, q8b, q8c⟩ := isOf hZ e6 P1
  obtain ⟨_, _, ⟨T8, L8, k8, n8⟩, -, X8, ⟨Lc8, hQ8, l8, y8, z8⟩, st8⟩ := X6.virtualBack hx (y := (⟨"java/lang/String", "coder", "()B"⟩ : MethodName)) (z := (⟨"java/lang/String", "coder", "()B"⟩ : MethodName)) hown (mvT hZ (hw _ (List.mem_of_getElem? (i := 56) rfl))) (mvT hZ (hw _ (List.mem_of_getElem? (i := 57) rfl))) (notFace_of_selects (args := #[]) (mvT hZ (hw _ (List.mem_of_getElem? (i := 59) rfl)))) (mvT hZ (hw _ (List.mem_of_getElem? (i := 59) rfl))) (mvT hZ (hw _ (List.mem_of_getElem? (i := 58) rfl))) (by decide) (backOf (W := 1) (rmCoder l Z a0 hw [] so zc h0 n0 Z0 P3 OLD P5 hzc) hZ (hw _ (List.mem_of_getElem? (i := 60) rfl)) (hw _ (List.mem_of_getElem? (i := 7) rfl)) (by decide) (by decide)) q8a q8c (g := (mkF m 6 #[.val (.ref so)] [(.ref so), (.int (4 : Int32))])) rfl (by rw [hml]; rfl) (Steps.refl _) (argsL := []) (rest := [(.int (4 : Int32))]) (lenOf pd__28_29B rfl) rfl (by show 2 * 0 + _ ≤ _; exact Nat.le_of_eq rfl) (hb hby d11_6) (fun _ _ => ⟨rfl, e6, (by decide : 0 + 0 ≤ _), (by decide : 0 + 0 ≤ _)⟩)
  dsimp only [Pt.U, Pt.locs, Pt.cells, Pt.slots] at X8 l8 y8 z8 st8 hQ8
  subst l8 y8 z8
  obtain ⟨rfl, Nq8, e8⟩ := hQ8
  have N8 := Fr.app N0 Nq8
  refine own_goT st8 ?_
  refine own_go (fun _ => XS.ishr X8.here hx rfl (hb hby d11_9) rfl) ?_
  show ∃ t o, Steps p.tables e below (T8.setTop (mkF m 10 #[.val (.ref so)] [(.int (4 : Int32))])) t ∧ _
  obtain ⟨fs, hr, hrun, hended, hW, hsame⟩ := X8.leave (v := some (.int (4 : Int32))) (fun h => by rw [Bd.returns] at h; cases h)
  refine ⟨_, _, ?_, hrun, hended, _, _, rfl, ?_, ⟨_, rfl⟩, hW, hsame.mono (by decide) (by decide)⟩
  · exact retI X8 hx Bd.returns (hb hby d11_10) hr
  · show Q_rmLen4 Z _ _ _ _ _ _ _ _ h0 n0 _ T8.heap _
    rw [e8]
    exact ⟨rfl, N8, rfl⟩
theorem ef_rmEmp4 (m : MethodId) (x0 : Nat) : entryFrame m #[(.ref x0)] 1 = mkF m 0 #[.val (.ref x0)] [] := by first | (simp [entryFrame, mkF, argsToLocals, Value.category]; done) | rfl
def Q_rmEmp4 (Z : State) (so : Nat) (tb : Nat) (kb : ClassId) (c0 : Int32) (c1 : Int32) (c2 : Int32) (c3 : Int32) (h0 : Heap) (n0 : Nat) (v : Option Value) (h : Heap) (L : List Loc) : Prop := v = some (.int (0 : Int32)) ∧ Fr n0 L ∧ h = h0
set_option maxRecDepth 65536 in
set_option maxHeartbeats 40000000 in
theorem rmEmp4 (l : Launch) (Z : State) (a0 : Array Value) (hw : ∀ d ∈ tables_1, d.before a0 Z = true) (ws : List Jvm.Cond) (so : Nat) (tb : Nat) (kb : ClassId) (c0 : Int32) (c1 : Int32) (c2 : Int32) (c3 : Int32) (h0 : Heap) (n0 : Nat) (Z0 : n0 ≤ h0.size) (P1 : Exa Z h0 so "java/lang/String") (P2 : Fld Z h0 so "java/lang/String" "value" "[B" (.ref tb)) (P3 : Fld Z h0 so "java/lang/String" "coder" "B" (.int (0 : Int32))) (P4 : Arv Z h0 tb kb .byte (4 : Int32) [(.int (c0.toInt8.toInt32)), (.int (c1.toInt8.toInt32)), (.int (c2.toInt8.toInt32)), (.int (c3.toInt8.toInt32))] (.int (0 : Int32))) (OLD : Old Z n0 h0) :
    MetFree l (⟨"java/lang/String", "isEmpty", "()Z"⟩ : MethodName) (head1 (Jvm.Cond.code (⟨"java/lang/String", "isEmpty", "()Z"⟩ : MethodName) jdk_42_method_55_code 1 (some .boolean) :: ws) ({ frames := 0, cells := 0, slots := 0, locals := 0 } : Room)) (fun a U => a = #[(.ref so)] ∧ Z.Warmed39 U.vm ∧ U.heap = h0) (fun _ _ _ _ _ => True) (fun _ U o U' => ∃ v L, o = .returned v ∧ Q_rmEmp4 Z so tb kb c0 c1 c2 c3 h0 n0 v U'.heap L ∧ FrameEnd U o U' L ({ frames := 0, cells := 0, slots := 0, locals := 0 } : Room).cells ({ frames := 0, cells := 0, slots := 0, locals := 0 } : Room).slots) := by
  refine MetFree.of_bodySF (plainFor_of_name pn_java_lang_String) hisR ?_
  intro p e s m args below meth c s₁ Bd hml0 hP hK
  obtain ⟨rfl, hZ, hh⟩ := hP
  have hx := Bd.exec
  have hby := Bd.bytes
  have hml : c.maxLocals = 1 := hml0
  have hown : s.vm.findClass "java/lang/String" = some m.cls := findClass_of_methodNamed Bd.named
  have hnm := (name_of_methodNamed Bd.named Bd.method).1
  have X0 : Stand p l e ({ frames := 0, cells := 0, slots := 0, locals := 0 } : Room) s m #[(.ref so)] below meth c s₁ [] 0 0 := Stand.of_body Bd
  have e0 : s₁.heap = h0 := by rw [← hh, Bd.state]; rfl
  have N0 := Fr.nil n0
  have pre0 : ∀ t, Steps p.tables e below (s₁.setTop (mkF m 0 #[.val (.ref so)] [])) t → Steps p.tables e below (s₁.setTop (entryFrame m #[(.ref so)] 1)) t := fun t k => castTop (ef_rmEmp4 m so) k
  have oz := OLD.1
  have lt_so : so < h0.size := P1.lt
  have lt_tb : tb < h0.size := P4.lt
  refine own_go (B := s₁.setTop (mkF m 0 #[.val (.ref so)] [])) pre0 ?_
  show ∃ t o, Steps p.tables e below (s₁.setTop (mkF m 0 #[.val (.ref so)] [])) t ∧ _
  refine own_go (fun _ => XS.aloadN X0.here hx rfl (hb hby d10_0) rfl rfl) ?_
  obtain ⟨T5, X5, e5, st5⟩ := getF X0 hx hZ hown (host := "") (Or.inl (hw _ (List.mem_of_getElem? (i := 33) rfl))) Via.refl e0 P2 (g := (mkF m 1 #[.val (.ref so)] [(.ref so)])) rfl rfl (hb hby d10_1)
  refine own_go st5 ?_
  obtain ⟨cl6, Ar6, q6, S6, N6, H6, G6⟩ := id P4
  have ln6 : cl6.slots.size.toInt32 = (4 : Int32) := len_of S6 N6
  have al6 := X5.arraylength hx (by rw [e5]; exact Ar6.1) (State.isArrayOf_alike hZ.alike Ar6.2.1) (g := (mkF m 4 #[.val (.ref so)] [(.ref tb)])) rfl rfl (hb hby d10_4)
  rw [ln6] at al6
  refine own_go al6 ?_
  show ∃ t o, Steps p.tables e below (T5.setTop (mkF m 5 #[.val (.ref so)] [(.int (4 : Int32))])) t ∧ _
  refine own_go (fun _ => XS.ifYes X5.here hx rfl (pc0 := 5) (pc' := 12) rfl (hb hby d10_5) rfl ((if0 _ _).trans (feq (by decide : ¬ ((4 : Int32) = (0 : Int32)))).2) (by decide) (by decide)) ?_
  refine own_go (fun _ => XS.iconst X5.here hx rfl (hb hby d10_12)) ?_
  show ∃ t o, Steps p.tables e below (T5.setTop (mkF m 13 #[.val (.ref so)] [(.int (0 : Int32))])) t ∧ _
  obtain ⟨fs, hr, hrun, hended, hW, hsame⟩ := X5.leave (v := some (.int (0 : Int32))) (fun h => by rw [Bd.returns] at h; cases h)
  refine ⟨_, _, ?_, hrun, hended, _, _, rfl, ?_, ⟨_, rfl⟩, hW, hsame.mono (by decide) (by decide)⟩
  · exact retN X5 hx (t := .boolean) Bd.returns (by simp) (hb hby d10_13) hr
  · show Q_rmEmp4 Z _ _ _ _ _ _ _ h0 n0 _ T5.heap _
    rw [e5]
    exact ⟨rfl, N0, rfl⟩
theorem ef_rmLch4_0 (m : MethodId) (x0 : Nat) (x1 : Int32) : entryFrame m #[(.ref x0), (.int x1)] 2 = mkF m 0 #[.val (.ref x0), .val (.int x1)] [] := by first | (simp [entryFrame, mkF, argsToLocals, Value.category]; done) | rfl
def Q_rmLch4_0 (Z : State) (tb : Nat) (kb : ClassId) (c0 : Int32) (c1 : Int32) (c2 : Int32) (c3 : Int32) (gv : Value) (h0 : Heap) (n0 : Nat) (v : Option Value) (h : Heap) (L : List Loc) : Prop := v = some (.int c0) ∧ Fr n0 L ∧ h = h0
set_option maxRecDepth 65536 in
set_option maxHeartbeats 40000000 in
theorem rmLch4_0 (l : Launch) (Z : State) (a0 : Array Value) (hw : ∀ d ∈ tables_1, d.before a0 Z = true) (ws : List Jvm.Cond) (tb : Nat) (kb : ClassId) (c0 : Int32) (c1 : Int32) (c2 : Int32) (c3 : Int32) (gv : Value) (h0 : Heap) (n0 : Nat) (Z0 : n0 ≤ h0.size) (P1 : Arv Z h0 tb kb .byte (4 : Int32) [(.int (c0.toInt8.toInt32)), (.int (c1.toInt8.toInt32)), (.int (c2.toInt8.toInt32)), (.int (c3.toInt8.toInt32))] (.int (0 : Int32))) (OLD : Old Z n0 h0) (P2 : Sta Z Z.heap "jdk/internal/util/Preconditions" "SIOOBE_FORMATTER" "Ljava/util/function/BiFunction;" gv) (hrg : own_rg c0) (hgv : gv.isRef = true) :
    MetFree l (⟨"java/lang/StringLatin1", "charAt", "([BI)C"⟩ : MethodName) (head1 (Jvm.Cond.code (⟨"java/lang/StringLatin1", "charAt", "([BI)C"⟩ : MethodName) jdk_43_method_2_code 2 (some .char) :: ws) ({ frames := 2, cells := 0, slots := 0, locals := 27 } : Room)) (fun a U => a = #[(.ref tb), (.int (0 : Int32))] ∧ Z.Warmed39 U.vm ∧ U.heap = h0) (fun _ _ _ _ _ => True) (fun _ U o U' => ∃ v L, o = .returned v ∧ Q_rmLch4_0 Z tb kb c0 c1 c2 c3 gv h0 n0 v U'.heap L ∧ FrameEnd U o U' L ({ frames := 2, cells := 0, slots := 0, locals := 27 } : Room).cells ({ frames := 2, cells := 0, slots := 0, locals := 27 } : Room).slots) := by
  refine MetFree.of_bodySF (plainFor_of_name pn_java_lang_StringLatin1) hisR ?_
  intro p e s m args below meth c s₁ Bd hml0 hP hK
  obtain ⟨rfl, hZ, hh⟩ := hP
  have hx := Bd.exec
  have hby := Bd.bytes
  have hml : c.maxLocals = 2 := hml0
  have hown : s.vm.findClass "java/lang/StringLatin1" = some m.cls := findClass_of_methodNamed Bd.named
  have hnm := (name_of_methodNamed Bd.named Bd.method).1
  have X0 : Stand p l e ({ frames := 2, cells := 0, slots := 0, locals := 27 } : Room) s m #[(.ref tb), (.int (0 : Int32))] below meth c s₁ [] 0 0 := Stand.of_body Bd
  have e0 : s₁.heap = h0 := by rw [← hh, Bd.state]; rfl
  have N0 := Fr.nil n0
  have pre0 : ∀ t, Steps p.tables e below (s₁.setTop (mkF m 0 #[.val (.ref tb), .val (.int (0 : Int32))] [])) t → Steps p.tables e below (s₁.setTop (entryFrame m #[(.ref tb), (.int (0 : Int32))] 2)) t := fun t k => castTop (ef_rmLch4_0 m tb (0 : Int32)) k
  have oz := OLD.1
  have lt_tb : tb < h0.size := P1.lt
  refine own_go (B := s₁.setTop (mkF m 0 #[.val (.ref tb), .val (.int (0 : Int32))] [])) pre0 ?_
  show ∃ t o, Steps p.tables e below (s₁.setTop (mkF m 0 #[.val (.ref tb), .val (.int (0 : Int32))] [])) t ∧ _
  refine own_go (fun _ => XS.iloadN X0.here hx rfl (hb hby d15_0) rfl) ?_
  refine own_go (fun _ => XS.aloadN X0.here hx rfl (hb hby d15_1) rfl rfl) ?_
  obtain ⟨cl3, Ar3, q3, S3, N3, H3, G3⟩ := id P1
  have ln3 : cl3.slots.size.toInt32 = (4 : Int32) := len_of S3 N3
  have al3 := X0.arraylength hx (by rw [e0]; exact Ar3.1) (State.isArrayOf_alike hZ.alike Ar3.2.1) (g := (mkF m 2 #[.val (.ref tb), .val (.int (0 : Int32))] [(.ref tb), (.int (0 : Int32))])) rfl rfl (hb hby d15_2)
  rw [ln3] at al3
  refine own_go al3 ?_
  show ∃ t o, Steps p.tables e below (s₁.setTop (mkF m 3 #[.val (.ref tb), .val (.int (0 : Int32))] [(.int (4 : Int32)), (.int (0 : Int32))])) t ∧ _
  obtain ⟨_, _, ⟨T4, L4, k4, n4⟩, -, X4, ⟨Lc4, hQ4, l4, y4, z4⟩, st4⟩ := Jvm.LawKit.callS X0 hx (y := (⟨"java/lang/String", "checkIndex", "(II)V"⟩ : MethodName)) hown (mvT hZ (hw _ (List.mem_of_getElem? (i := 75) rfl))) (mvT hZ (hw _ (List.mem_of_getElem? (i := 76) rfl))) (mvT hZ (hw _ (List.mem_of_getElem? (i := 7) rfl))) (mvT hZ (hw _ (List.mem_of_getElem? (i := 77) rfl))) (by decide) (backOf (W := 0) (rmCi l Z a0 hw [] (0 : Int32) (4 : Int32) gv h0 n0 Z0 OLD P2 hgv (by decide) (by decide)) hZ (hw _ (List.mem_of_getElem? (i := 77) rfl)) (hw _ (List.mem_of_getElem? (i := 7) rfl)) (by decide) (by decide)) (g := (mkF m 3 #[.val (.ref tb), .val (.int (0 : Int32))] [(.int (4 : Int32)), (.int (0 : Int32))])) rfl (by rw [hml]; rfl) (argsL := [(.int (0 : Int32)), (.int (4 : Int32))]) (rest := []) (lenOf pd__28II_29V rfl) rfl (by show 2 * 0 + _ ≤ _; exact Nat.le_of_eq rfl) (hb hby d15_3) (fun _ _ => ⟨rfl, e0, (by decide : 0 + 0 ≤ _), (by decide : 0 + 0 ≤ _)⟩)
  dsimp only [Pt.U, Pt.locs, Pt.cells, Pt.slots] at X4 l4 y4 z4 st4 hQ4
  subst l4 y4 z4
  obtain ⟨rfl, Nq4, e4⟩ := hQ4
  have N4 := Fr.app N0 Nq4
  refine own_go st4 ?_
  refine own_go (fun _ => XS.aloadN X4.here hx rfl (hb hby d15_6) rfl rfl) ?_
  refine own_go (fun _ => XS.iloadN X4.here hx rfl (hb hby d15_7) rfl) ?_
  show ∃ t o, Steps p.tables e below (T4.setTop (mkF m 8 #[.val (.ref tb), .val (.int (0 : Int32))] [(.int (0 : Int32)), (.ref tb)])) t ∧ _
  obtain ⟨cl5, Ar5, q5, S5, N5, H5, G5⟩ := id P1
  have hin5 : ¬ ((0 : Int32) < 0 ∨ cl5.slots.size ≤ ((0 : Int32)).toNatClampNeg) := inb_of S5 ⟨by decide, by decide⟩
  have hat5 : cl5.slots[((0 : Int32)).toNatClampNeg]? = some (.int (c0.toInt8.toInt32)) := Has.at H5 hin5 rfl
  refine own_go (fun _ => X4.baloadBytes hx (j := (0 : Int32)) (v := (.int (c0.toInt8.toInt32))) (by rw [e4]; exact Ar5.1) (State.isArrayOf_alike hZ.alike Ar5.2.1) Ar5.2.2 hin5 hat5 (g := (mkF m 8 #[.val (.ref tb), .val (.int (0 : Int32))] [(.int (0 : Int32)), (.ref tb)])) rfl rfl (hb hby d15_8) _) ?_
  refine own_go (fun _ => XS.sipush X4.here hx rfl (hb hby d15_9)) ?_
  refine own_go (fun _ => XS.iand X4.here hx rfl (hb hby d15_12) rfl) ?_
  show ∃ t o, Steps p.tables e below (T4.setTop (mkF m 13 #[.val (.ref tb), .val (.int (0 : Int32))] [(.int ((c0.toInt8.toInt32) &&& (255 : Int32)))])) t ∧ _
  refine own_go (fun _ => XS.i2c X4.here hx rfl (hb hby d15_13) rfl) ?_
  show ∃ t o, Steps p.tables e below (T4.setTop (mkF m 14 #[.val (.ref tb), .val (.int (0 : Int32))] [(.int (((c0.toInt8.toInt32) &&& (255 : Int32)).toUInt32.toUInt16.toUInt32.toInt32))])) t ∧ _
  obtain ⟨fs, hr, hrun, hended, hW, hsame⟩ := X4.leave (v := some (.int (nar .char (((c0.toInt8.toInt32) &&& (255 : Int32)).toUInt32.toUInt16.toUInt32.toInt32)))) (fun h => by rw [Bd.returns] at h; cases h)
  refine ⟨_, _, ?_, hrun, hended, _, _, rfl, ?_, ⟨_, rfl⟩, hW, hsame.mono (by decide) (by decide)⟩
  · exact retN X4 hx (t := .char) Bd.returns (by simp) (hb hby d15_14) hr
  · show Q_rmLch4_0 Z _ _ _ _ _ _ _ h0 n0 _ T4.heap _
    rw [e4]
    exact ⟨(congrArg (fun z => some (Value.int z)) (own_back hrg)), N4, rfl⟩
theorem ef_rmCh4_0 (m : MethodId) (x0 : Nat) (x1 : Int32) : entryFrame m #[(.ref x0), (.int x1)] 2 = mkF m 0 #[.val (.ref x0), .val (.int x1)] [] := by first | (simp [entryFrame, mkF, argsToLocals, Value.category]; done) | rfl
def Q_rmCh4_0 (Z : State) (so : Nat) (tb : Nat) (kb : ClassId) (c0 : Int32) (c1 : Int32) (c2 : Int32) (c3 : Int32) (zc : Int32) (gv : Value) (h0 : Heap) (n0 : Nat) (v : Option Value) (h : Heap) (L : List Loc) : Prop := v = some (.int c0) ∧ Fr n0 L ∧ h = h0
set_option maxRecDepth 65536 in
set_option maxHeartbeats 40000000 in
theorem rmCh4_0 (l : Launch) (Z : State) (a0 : Array Value) (hw : ∀ d ∈ tables_1, d.before a0 Z = true) (ws : List Jvm.Cond) (so : Nat) (tb : Nat) (kb : ClassId) (c0 : Int32) (c1 : Int32) (c2 : Int32) (c3 : Int32) (zc : Int32) (gv : Value) (h0 : Heap) (n0 : Nat) (Z0 : n0 ≤ h0.size) (P1 : Exa Z h0 so "java/lang/String") (P2 : Fld Z h0 so "java/lang/String" "value" "[B" (.ref tb)) (P3 : Fld Z h0 so "java/lang/String" "coder" "B" (.int (0 : Int32))) (P4 : Arv Z h0 tb kb .byte (4 : Int32) [(.int (c0.toInt8.toInt32)), (.int (c1.toInt8.toInt32)), (.int (c2.toInt8.toInt32)), (.int (c3.toInt8.toInt32))] (.int (0 : Int32))) (OLD : Old Z n0 h0) (P5 : Sta Z Z.heap "java/lang/String" "COMPACT_STRINGS" "Z" (.int zc)) (P6 : Sta Z Z.heap "jdk/internal/util/Preconditions" "SIOOBE_FORMATTER" "Ljava/util/function/BiFunction;" gv) (hzc : ¬ (zc = (0 : Int32))) (hgv : gv.isRef = true) (hrg : own_rg c0) :
    MetFree l (⟨"java/lang/String", "charAt", "(I)C"⟩ : MethodName) (head1 (Jvm.Cond.code (⟨"java/lang/String", "charAt", "(I)C"⟩ : MethodName) jdk_42_method_56_code 2 (some .char) :: ws) ({ frames := 3, cells := 0, slots := 0, locals := 40 } : Room)) (fun a U => a = #[(.ref so), (.int (0 : Int32))] ∧ Z.Warmed39 U.vm ∧ U.heap = h0) (fun _ _ _ _ _ => True) (fun _ U o U' => ∃ v L, o = .returned v ∧ Q_rmCh4_0 Z so tb kb c0 c1 c2 c3 zc gv h0 n0 v U'.heap L ∧ FrameEnd U o U' L ({ frames := 3, cells := 0, slots := 0, locals := 40 } : Room).cells ({ frames := 3, cells := 0, slots := 0, locals := 40 } : Room).slots) := by
  refine MetFree.of_bodySF (plainFor_of_name pn_java_lang_String) hisR ?_
  intro p e s m args below meth c s₁ Bd hml0 hP hK
  obtain ⟨rfl, hZ, hh⟩ := hP
  have hx := Bd.exec
  have hby := Bd.bytes
  have hml : c.maxLocals = 2 := hml0
  have hown : s.vm.findClass "java/lang/String" = some m.cls := findClass_of_methodNamed Bd.named
  have hnm := (name_of_methodNamed Bd.named Bd.method).1
  have X0 : Stand p l e ({ frames := 3, cells := 0, slots := 0, locals := 40 } : Room) s m #[(.ref so), (.int (0 : Int32))] below meth c s₁ [] 0 0 := Stand.of_body Bd
  have e0 : s₁.heap = h0 := by rw [← hh, Bd.state]; rfl
  have N0 := Fr.nil n0
  have pre0 : ∀ t, Steps p.tables e below (s₁.setTop (mkF m 0 #[.val (.ref so), .val (.int (0 : Int32))] [])) t → Steps p.tables e below (s₁.setTop (entryFrame m #[(.ref so), (.int (0 : Int32))] 2)) t := fun t k => castTop (ef_rmCh4_0 m so (0 : Int32)) k
  have oz := OLD.1
  have lt_so : so < h0.size := P1.lt
  have lt_tb : tb < h0.size := P4.lt
  refine own_go (B := s₁.setTop (mkF m 0 #[.val (.ref so), .val (.int (0 : Int32))] [])) pre0 ?_
  show ∃ t o, Steps p.tables e below (s₁.setTop (mkF m 0 #[.val (.ref so), .val (.int (0 : Int32))] [])) t ∧ _
  refine own_go (fun _ => XS.aloadN X0.here hx rfl (hb hby d13_0) rfl rfl) ?_
  show ∃ t o, Steps p.tables e below (s₁.setTop (mkF m 1 #[.val (.ref so), .val (.int (0 : Int32))] [(.ref so)])) t ∧ _
  obtain ⟨cq7, kq7, q7a, q7b, q7c⟩ := isOf hZ e0 P1
  obtain ⟨_, _, ⟨T7, L7, k7, n7⟩, -, X7, ⟨Lc7, hQ7, l7, y7, z7⟩, st7⟩ := X0.virtualBack hx (y := (⟨"java/lang/String", "isLatin1", "()Z"⟩ : MethodName)) (z := (⟨"java/lang/String", "isLatin1", "()Z"⟩ : MethodName)) hown (mvT hZ (hw _ (List.mem_of_getElem? (i := 66) rfl))) (mvT hZ (hw _ (List.mem_of_getElem? (i := 67) rfl))) (notFace_of_selects (args := #[]) (mvT hZ (hw _ (List.mem_of_getElem? (i := 69) rfl)))) (mvT hZ (hw _ (List.mem_of_getElem? (i := 69) rfl))) (mvT hZ (hw _ (List.mem_of_getElem? (i := 68) rfl))) (by decide) (backOf (W := 0) (rmLat l Z a0 hw [] so zc h0 n0 Z0 P3 OLD P5 hzc) hZ (hw _ (List.mem_of_getElem? (i := 70) rfl)) (hw _ (List.mem_of_getElem? (i := 7) rfl)) (by decide) (by decide)) q7a q7c (g := (mkF m 1 #[.val (.ref so), .val (.int (0 : Int32))] [(.ref so)])) rfl (by rw [hml]; rfl) (Steps.refl _) (argsL := []) (rest := []) (lenOf pd__28_29Z rfl) rfl (by show 2 * 0 + _ ≤ _; exact Nat.le_of_eq rfl) (hb hby d13_1) (fun _ _ => ⟨rfl, e0, (by decide : 0 + 0 ≤ _), (by decide : 0 + 0 ≤ _)⟩)
  dsimp only [Pt.U, Pt.locs, Pt.cells, Pt.slots] at X7 l7 y7 z7 st7 hQ7
  subst l7 y7 z7
  obtain ⟨rfl, Nq7, e7⟩ := hQ7
  have N7 := Fr.app N0 Nq7
  refine own_goT st7 ?_
  show ∃ t o, Steps p.tables e below (T7.setTop (mkF m 4 #[.val (.ref so), .val (.int (0 : Int32))] [(.int (1 : Int32))])) t ∧ _
  refine own_go (fun _ => XS.ifNo X7.here hx rfl (hb hby d13_4) rfl ((if0 _ _).trans (feq (by decide : ¬ ((1 : Int32) = (0 : Int32)))).1)) ?_
  refine own_go (fun _ => XS.aloadN X7.here hx rfl (hb hby d13_7) rfl rfl) ?_
  obtain ⟨T8, X8, e8, st8⟩ := getF X7 hx hZ hown (host := "") (Or.inl (hw _ (List.mem_of_getElem? (i := 33) rfl))) Via.refl e7 P2 (g := (mkF m 8 #[.val (.ref so), .val (.int (0 : Int32))] [(.ref so)])) rfl rfl (hb hby d13_8)
  refine own_go st8 ?_
  show ∃ t o, Steps p.tables e below (T8.setTop (mkF m 11 #[.val (.ref so), .val (.int (0 : Int32))] [(.ref tb)])) t ∧ _
  refine own_go (fun _ => XS.iloadN X8.here hx rfl (hb hby d13_11) rfl) ?_
  show ∃ t o, Steps p.tables e below (T8.setTop (mkF m 12 #[.val (.ref so), .val (.int (0 : Int32))] [(.int (0 : Int32)), (.ref tb)])) t ∧ _
  obtain ⟨_, _, ⟨T9, L9, k9, n9⟩, -, X9, ⟨Lc9, hQ9, l9, y9, z9⟩, st9⟩ := Jvm.LawKit.callS X8 hx (y := (⟨"java/lang/StringLatin1", "charAt", "([BI)C"⟩ : MethodName)) hown (mvT hZ (hw _ (List.mem_of_getElem? (i := 71) rfl))) (mvT hZ (hw _ (List.mem_of_getElem? (i := 72) rfl))) (mvT hZ (hw _ (List.mem_of_getElem? (i := 73) rfl))) (mvT hZ (hw _ (List.mem_of_getElem? (i := 74) rfl))) (by decide) (backOf (W := 0) (rmLch4_0 l Z a0 hw [] tb kb c0 c1 c2 c3 gv h0 n0 Z0 P4 OLD P6 hrg hgv) hZ (hw _ (List.mem_of_getElem? (i := 74) rfl)) (hw _ (List.mem_of_getElem? (i := 73) rfl)) (by decide) (by decide)) (g := (mkF m 12 #[.val (.ref so), .val (.int (0 : Int32))] [(.int (0 : Int32)), (.ref tb)])) rfl (by rw [hml]; rfl) (argsL := [(.ref tb), (.int (0 : Int32))]) (rest := []) (lenOf pd__28_5bBI_29C rfl) rfl (by show 2 * 0 + _ ≤ _; exact Nat.le_of_eq rfl) (hb hby d13_12) (fun _ _ => ⟨rfl, e8, (by decide : 0 + 0 ≤ _), (by decide : 0 + 0 ≤ _)⟩)
  dsimp only [Pt.U, Pt.locs, Pt.cells, Pt.slots] at X9 l9 y9 z9 st9 hQ9
  subst l9 y9 z9
  obtain ⟨rfl, Nq9, e9⟩ := hQ9
  have N9 := Fr.app N7 Nq9
  refine own_go st9 ?_
  show ∃ t o, Steps p.tables e below (T9.setTop (mkF m 15 #[.val (.ref so), .val (.int (0 : Int32))] [(.int c0)])) t ∧ _
  obtain ⟨fs, hr, hrun, hended, hW, hsame⟩ := X9.leave (v := some (.int (nar .char c0))) (fun h => by rw [Bd.returns] at h; cases h)
  refine ⟨_, _, ?_, hrun, hended, _, _, rfl, ?_, ⟨_, rfl⟩, hW, hsame.mono (by decide) (by decide)⟩
  · exact retN X9 hx (t := .char) Bd.returns (by simp) (hb hby d13_15) hr
  · show Q_rmCh4_0 Z _ _ _ _ _ _ _ _ _ h0 n0 _ T9.heap _
    rw [e9]
    exact ⟨(congrArg (fun z => some (Value.int z)) (own_narc hrg)), N9, rfl⟩
theorem ef_rmLch4_1 (m : MethodId) (x0 : Nat) (x1 : Int32) : entryFrame m #[(.ref x0), (.int x1)] 2 = mkF m 0 #[.val (.ref x0), .val (.int x1)] [] := by first | (simp [entryFrame, mkF, argsToLocals, Value.category]; done) | rfl
def Q_rmLch4_1 (Z : State) (tb : Nat) (kb : ClassId) (c0 : Int32) (c1 : Int32) (c2 : Int32) (c3 : Int32) (gv : Value) (h0 : Heap) (n0 : Nat) (v : Option Value) (h : Heap) (L : List Loc) : Prop := v = some (.int c1) ∧ Fr n0 L ∧ h = h0
set_option maxRecDepth 65536 in
set_option maxHeartbeats 40000000 in
theorem rmLch4_1 (l : Launch) (Z : State) (a0 : Array Value) (hw : ∀ d ∈ tables_1, d.before a0 Z = true) (ws : List Jvm.Cond) (tb : Nat) (kb : ClassId) (c0 : Int32) (c1 : Int32) (c2 : Int32) (c3 : Int32) (gv : Value) (h0 : Heap) (n0 : Nat) (Z0 : n0 ≤ h0.size) (P1 : Arv Z h0 tb kb .byte (4 : Int32) [(.int (c0.toInt8.toInt32)), (.int (c1.toInt8.toInt32)), (.int (c2.toInt8.toInt32)), (.int (c3.toInt8.toInt32))] (.int (0 : Int32))) (OLD : Old Z n0 h0) (P2 : Sta Z Z.heap "jdk/internal/util/Preconditions" "SIOOBE_FORMATTER" "Ljava/util/function/BiFunction;" gv) (hrg : own_rg c1) (hgv : gv.isRef = true) :
    MetFree l (⟨"java/lang/StringLatin1", "charAt", "([BI)C"⟩ : MethodName) (head1 (Jvm.Cond.code (⟨"java/lang/StringLatin1", "charAt", "([BI)C"⟩ : MethodName) jdk_43_method_2_code 2 (some .char) :: ws) ({ frames := 2, cells := 0, slots := 0, locals := 27 } : Room)) (fun a U => a = #[(.ref tb), (.int (1 : Int32))] ∧ Z.Warmed39 U.vm ∧ U.heap = h0) (fun _ _ _ _ _ => True) (fun _ U o U' => ∃ v L, o = .returned v ∧ Q_rmLch4_1 Z tb kb c0 c1 c2 c3 gv h0 n0 v U'.heap L ∧ FrameEnd U o U' L ({ frames := 2, cells := 0, slots := 0, locals := 27 } : Room).cells ({ frames := 2, cells := 0, slots := 0, locals := 27 } : Room).slots) := by
  refine MetFree.of_bodySF (plainFor_of_name pn_java_lang_StringLatin1) hisR ?_
  intro p e s m args below meth c s₁ Bd hml0 hP hK
  obtain ⟨rfl, hZ, hh⟩ := hP
  have hx := Bd.exec
  have hby := Bd.bytes
  have hml : c.maxLocals = 2 := hml0
  have hown : s.vm.findClass "java/lang/StringLatin1" = some m.cls := findClass_of_methodNamed Bd.named
  have hnm := (name_of_methodNamed Bd.named Bd.method).1
  have X0 : Stand p l e ({ frames := 2, cells := 0, slots := 0, locals := 27 } : Room) s m #[(.ref tb), (.int (1 : Int32))] below meth c s₁ [] 0 0 := Stand.of_body Bd
  have e0 : s₁.heap = h0 := by rw [← hh, Bd.state]; rfl
  have N0 := Fr.nil n0
  have pre0 : ∀ t, Steps p.tables e below (s₁.setTop (mkF m 0 #[.val (.ref tb), .val (.int (1 : Int32))] [])) t → Steps p.tables e below (s₁.setTop (entryFrame m #[(.ref tb), (.int (1 : Int32))] 2)) t := fun t k => castTop (ef_rmLch4_1 m tb (1 : Int32)) k
  have oz := OLD.1
  have lt_tb : tb < h0.size := P1.lt
  refine own_go (B := s₁.setTop (mkF m 0 #[.val (.ref tb), .val (.int (1 : Int32))] [])) pre0 ?_
  show ∃ t o, Steps p.tables e below (s₁.setTop (mkF m 0 #[.val (.ref tb), .val (.int (1 : Int32))] [])) t ∧ _
  refine own_go (fun _ => XS.iloadN X0.here hx rfl (hb hby d15_0) rfl) ?_
  refine own_go (fun _ => XS.aloadN X0.here hx rfl (hb hby d15_1) rfl rfl) ?_
  obtain ⟨cl3, Ar3, q3, S3, N3, H3, G3⟩ := id P1
  have ln3 : cl3.slots.size.toInt32 = (4 : Int32) := len_of S3 N3
  have al3 := X0.arraylength hx (by rw [e0]; exact Ar3.1) (State.isArrayOf_alike hZ.alike Ar3.2.1) (g := (mkF m 2 #[.val (.ref tb), .val (.int (1 : Int32))] [(.ref tb), (.int (1 : Int32))])) rfl rfl (hb hby d15_2)
  rw [ln3] at al3
  refine own_go al3 ?_
  show ∃ t o, Steps p.tables e below (s₁.setTop (mkF m 3 #[.val (.ref tb), .val (.int (1 : Int32))] [(.int (4 : Int32)), (.int (1 : Int32))])) t ∧ _
  obtain ⟨_, _, ⟨T4, L4, k4, n4⟩, -, X4, ⟨Lc4, hQ4, l4, y4, z4⟩, st4⟩ := Jvm.LawKit.callS X0 hx (y := (⟨"java/lang/String", "checkIndex", "(II)V"⟩ : MethodName)) hown (mvT hZ (hw _ (List.mem_of_getElem? (i := 75) rfl))) (mvT hZ (hw _ (List.mem_of_getElem? (i := 76) rfl))) (mvT hZ (hw _ (List.mem_of_getElem? (i := 7) rfl))) (mvT hZ (hw _ (List.mem_of_getElem? (i := 77) rfl))) (by decide) (backOf (W := 0) (rmCi l Z a0 hw [] (1 : Int32) (4 : Int32) gv h0 n0 Z0 OLD P2 hgv (by decide) (by decide)) hZ (hw _ (List.mem_of_getElem? (i := 77) rfl)) (hw _ (List.mem_of_getElem? (i := 7) rfl)) (by decide) (by decide)) (g := (mkF m 3 #[.val (.ref tb), .val (.int (1 : Int32))] [(.int (4 : Int32)), (.int (1 : Int32))])) rfl (by rw [hml]; rfl) (argsL := [(.int (1 : Int32)), (.int (4 : Int32))]) (rest := []) (lenOf pd__28II_29V rfl) rfl (by show 2 * 0 + _ ≤ _; exact Nat.le_of_eq rfl) (hb hby d15_3) (fun _ _ => ⟨rfl, e0, (by decide : 0 + 0 ≤ _), (by decide : 0 + 0 ≤ _)⟩)
  dsimp only [Pt.U, Pt.locs, Pt.cells, Pt.slots] at X4 l4 y4 z4 st4 hQ4
  subst l4 y4 z4
  obtain ⟨rfl, Nq4, e4⟩ := hQ4
  have N4 := Fr.app N0 Nq4
  refine own_go st4 ?_
  refine own_go (fun _ => XS.aloadN X4.here hx rfl (hb hby d15_6) rfl rfl) ?_
  refine own_go (fun _ => XS.iloadN X4.here hx rfl (hb hby d15_7) rfl) ?_
  show ∃ t o, Steps p.tables e below (T4.setTop (mkF m 8 #[.val (.ref tb), .val (.int (1 : Int32))] [(.int (1 : Int32)), (.ref tb)])) t ∧ _
  obtain ⟨cl5, Ar5, q5, S5, N5, H5, G5⟩ := id P1
  have hin5 : ¬ ((1 : Int32) < 0 ∨ cl5.slots.size ≤ ((1 : Int32)).toNatClampNeg) := inb_of S5 ⟨by decide, by decide⟩
  have hat5 : cl5.slots[((1 : Int32)).toNatClampNeg]? = some (.int (c1.toInt8.toInt32)) := Has.at H5 hin5 rfl
  refine own_go (fun _ => X4.baloadBytes hx (j := (1 : Int32)) (v := (.int (c1.toInt8.toInt32))) (by rw [e4]; exact Ar5.1) (State.isArrayOf_alike hZ.alike Ar5.2.1) Ar5.2.2 hin5 hat5 (g := (mkF m 8 #[.val (.ref tb), .val (.int (1 : Int32))] [(.int (1 : Int32)), (.ref tb)])) rfl rfl (hb hby d15_8) _) ?_
  refine own_go (fun _ => XS.sipush X4.here hx rfl (hb hby d15_9)) ?_
  refine own_go (fun _ => XS.iand X4.here hx rfl (hb hby d15_12) rfl) ?_
  show ∃ t o, Steps p.tables e below (T4.setTop (mkF m 13 #[.val (.ref tb), .val (.int (1 : Int32))] [(.int ((c1.toInt8.toInt32) &&& (255 : Int32)))])) t ∧ _
  refine own_go (fun _ => XS.i2c X4.here hx rfl (hb hby d15_13) rfl) ?_
  show ∃ t o, Steps p.tables e below (T4.setTop (mkF m 14 #[.val (.ref tb), .val (.int (1 : Int32))] [(.int (((c1.toInt8.toInt32) &&& (255 : Int32)).toUInt32.toUInt16.toUInt32.toInt32))])) t ∧ _
  obtain ⟨fs, hr, hrun, hended, hW, hsame⟩ := X4.leave (v := some (.int (nar .char (((c1.toInt8.toInt32) &&& (255 : Int32)).toUInt32.toUInt16.toUInt32.toInt32)))) (fun h => by rw [Bd.returns] at h; cases h)
  refine ⟨_, _, ?_, hrun, hended, _, _, rfl, ?_, ⟨_, rfl⟩, hW, hsame.mono (by decide) (by decide)⟩
  · exact retN X4 hx (t := .char) Bd.returns (by simp) (hb hby d15_14) hr
  · show Q_rmLch4_1 Z _ _ _ _ _ _ _ h0 n0 _ T4.heap _
    rw [e4]
    exact ⟨(congrArg (fun z => some (Value.int z)) (own_back hrg)), N4, rfl⟩
theorem ef_rmCh4_1 (m : MethodId) (x0 : Nat) (x1 : Int32) : entryFrame m #[(.ref x0), (.int x1)] 2 = mkF m 0 #[.val (.ref x0), .val (.int x1)] [] := by first | (simp [entryFrame, mkF, argsToLocals, Value.category]; done) | rfl
def Q_rmCh4_1 (Z : State) (so : Nat) (tb : Nat) (kb : ClassId) (c0 : Int32) (c1 : Int32) (c2 : Int32) (c3 : Int32) (zc : Int32) (gv : Value) (h0 : Heap) (n0 : Nat) (v : Option Value) (h : Heap) (L : List Loc) : Prop := v = some (.int c1) ∧ Fr n0 L ∧ h = h0
set_option maxRecDepth 65536 in
set_option maxHeartbeats 40000000 in
theorem rmCh4_1 (l : Launch) (Z : State) (a0 : Array Value) (hw : ∀ d ∈ tables_1, d.before a0 Z = true) (ws : List Jvm.Cond) (so : Nat) (tb : Nat) (kb : ClassId) (c0 : Int32) (c1 : Int32) (c2 : Int32) (c3 : Int32) (zc : Int32) (gv : Value) (h0 : Heap) (n0 : Nat) (Z0 : n0 ≤ h0.size) (P1 : Exa Z h0 so "java/lang/String") (P2 : Fld Z h0 so "java/lang/String" "value" "[B" (.ref tb)) (P3 : Fld Z h0 so "java/lang/String" "coder" "B" (.int (0 : Int32))) (P4 : Arv Z h0 tb kb .byte (4 : Int32) [(.int (c0.toInt8.toInt32)), (.int (c1.toInt8.toInt32)), (.int (c2.toInt8.toInt32)), (.int (c3.toInt8.toInt32))] (.int (0 : Int32))) (OLD : Old Z n0 h0) (P5 : Sta Z Z.heap "java/lang/String" "COMPACT_STRINGS" "Z" (.int zc)) (P6 : Sta Z Z.heap "jdk/internal/util/Preconditions" "SIOOBE_FORMATTER" "Ljava/util/function/BiFunction;" gv) (hzc : ¬ (zc = (0 : Int32))) (hgv : gv.isRef = true) (hrg : own_rg c1) :
    MetFree l (⟨"java/lang/String", "charAt", "(I)C"⟩ : MethodName) (head1 (Jvm.Cond.code (⟨"java/lang/String", "charAt", "(I)C"⟩ : MethodName) jdk_42_method_56_code 2 (some .char) :: ws) ({ frames := 3, cells := 0, slots := 0, locals := 40 } : Room)) (fun a U => a = #[(.ref so), (.int (1 : Int32))] ∧ Z.Warmed39 U.vm ∧ U.heap = h0) (fun _ _ _ _ _ => True) (fun _ U o U' => ∃ v L, o = .returned v ∧ Q_rmCh4_1 Z so tb kb c0 c1 c2 c3 zc gv h0 n0 v U'.heap L ∧ FrameEnd U o U' L ({ frames := 3, cells := 0, slots := 0, locals := 40 } : Room).cells ({ frames := 3, cells := 0, slots := 0, locals := 40 } : Room).slots) := by
  refine MetFree.of_bodySF (plainFor_of_name pn_java_lang_String) hisR ?_
  intro p e s m args below meth c s₁ Bd hml0 hP hK
  obtain ⟨rfl, hZ, hh⟩ := hP
  have hx := Bd.exec
  have hby := Bd.bytes
  have hml : c.maxLocals = 2 := hml0
  have hown : s.vm.findClass "java/lang/String" = some m.cls := findClass_of_methodNamed Bd.named
  have hnm := (name_of_methodNamed Bd.named Bd.method).1
  have X0 : Stand p l e ({ frames := 3, cells := 0, slots := 0, locals := 40 } : Room) s m #[(.ref so), (.int (1 : Int32))] below meth c s₁ [] 0 0 := Stand.of_body Bd
  have e0 : s₁.heap = h0 := by rw [← hh, Bd.state]; rfl
  have N0 := Fr.nil n0
  have pre0 : ∀ t, Steps p.tables e below (s₁.setTop (mkF m 0 #[.val (.ref so), .val (.int (1 : Int32))] [])) t → Steps p.tables e below (s₁.setTop (entryFrame m #[(.ref so), (.int (1 : Int32))] 2)) t := fun t k => castTop (ef_rmCh4_1 m so (1 : Int32)) k
  have oz := OLD.1
  have lt_so : so < h0.size := P1.lt
  have lt_tb : tb < h0.size := P4.lt
  refine own_go (B := s₁.setTop (mkF m 0 #[.val (.ref so), .val (.int (1 : Int32))] [])) pre0 ?_
  show ∃ t o, Steps p.tables e below (s₁.setTop (mkF m 0 #[.val (.ref so), .val (.int (1 : Int32))] [])) t ∧ _
  refine own_go (fun _ => XS.aloadN X0.here hx rfl (hb hby d13_0) rfl rfl) ?_
  show ∃ t o, Steps p.tables e below (s₁.setTop (mkF m 1 #[.val (.ref so), .val (.int (1 : Int32))] [(.ref so)])) t ∧ _
  obtain ⟨cq7, kq7, q7a, q7b, q7c⟩ := isOf hZ e0 P1
  obtain ⟨_, _, ⟨T7, L7, k7, n7⟩, -, X7, ⟨Lc7, hQ7, l7, y7, z7⟩, st7⟩ := X0.virtualBack hx (y := (⟨"java/lang/String", "isLatin1", "()Z"⟩ : MethodName)) (z := (⟨"java/lang/String", "isLatin1", "()Z"⟩ : MethodName)) hown (mvT hZ (hw _ (List.mem_of_getElem? (i := 66) rfl))) (mvT hZ (hw _ (List.mem_of_getElem? (i := 67) rfl))) (notFace_of_selects (args := #[]) (mvT hZ (hw _ (List.mem_of_getElem? (i := 69) rfl)))) (mvT hZ (hw _ (List.mem_of_getElem? (i := 69) rfl))) (mvT hZ (hw _ (List.mem_of_getElem? (i := 68) rfl))) (by decide) (backOf (W := 0) (rmLat l Z a0 hw [] so zc h0 n0 Z0 P3 OLD P5 hzc) hZ (hw _ (List.mem_of_getElem? (i := 70) rfl)) (hw _ (List.mem_of_getElem? (i := 7) rfl)) (by decide) (by decide)) q7a q7c (g := (mkF m 1 #[.val (.ref so), .val (.int (1 : Int32))] [(.ref so)])) rfl (by rw [hml]; rfl) (Steps.refl _) (argsL := []) (rest := []) (lenOf pd__28_29Z rfl) rfl (by show 2 * 0 + _ ≤ _; exact Nat.le_of_eq rfl) (hb hby d13_1) (fun _ _ => ⟨rfl, e0, (by decide : 0 + 0 ≤ _), (by decide : 0 + 0 ≤ _)⟩)
  dsimp only [Pt.U, Pt.locs, Pt.cells, Pt.slots] at X7 l7 y7 z7 st7 hQ7
  subst l7 y7 z7
  obtain ⟨rfl, Nq7, e7⟩ := hQ7
  have N7 := Fr.app N0 Nq7
  refine own_goT st7 ?_
  show ∃ t o, Steps p.tables e below (T7.setTop (mkF m 4 #[.val (.ref so), .val (.int (1 : Int32))] [(.int (1 : Int32))])) t ∧ _
  refine own_go (fun _ => XS.ifNo X7.here hx rfl (hb hby d13_4) rfl ((if0 _ _).trans (feq (by decide : ¬ ((1 : Int32) = (0 : Int32)))).1)) ?_
  refine own_go (fun _ => XS.aloadN X7.here hx rfl (hb hby d13_7) rfl rfl) ?_
  obtain ⟨T8, X8, e8, st8⟩ := getF X7 hx hZ hown (host := "") (Or.inl (hw _ (List.mem_of_getElem? (i := 33) rfl))) Via.refl e7 P2 (g := (mkF m 8 #[.val (.ref so), .val (.int (1 : Int32))] [(.ref so)])) rfl rfl (hb hby d13_8)
  refine own_go st8 ?_
  show ∃ t o, Steps p.tables e below (T8.setTop (mkF m 11 #[.val (.ref so), .val (.int (1 : Int32))] [(.ref tb)])) t ∧ _
  refine own_go (fun _ => XS.iloadN X8.here hx rfl (hb hby d13_11) rfl) ?_
  show ∃ t o, Steps p.tables e below (T8.setTop (mkF m 12 #[.val (.ref so), .val (.int (1 : Int32))] [(.int (1 : Int32)), (.ref tb)])) t ∧ _
  obtain ⟨_, _, ⟨T9, L9, k9, n9⟩, -, X9, ⟨Lc9, hQ9, l9, y9, z9⟩, st9⟩ := Jvm.LawKit.callS X8 hx (y := (⟨"java/lang/StringLatin1", "charAt", "([BI)C"⟩ : MethodName)) hown (mvT hZ (hw _ (List.mem_of_getElem? (i := 71) rfl))) (mvT hZ (hw _ (List.mem_of_getElem? (i := 72) rfl))) (mvT hZ (hw _ (List.mem_of_getElem? (i := 73) rfl))) (mvT hZ (hw _ (List.mem_of_getElem? (i := 74) rfl))) (by decide) (backOf (W := 0) (rmLch4_1 l Z a0 hw [] tb kb c0 c1 c2 c3 gv h0 n0 Z0 P4 OLD P6 hrg hgv) hZ (hw _ (List.mem_of_getElem? (i := 74) rfl)) (hw _ (List.mem_of_getElem? (i := 73) rfl)) (by decide) (by decide)) (g := (mkF m 12 #[.val (.ref so), .val (.int (1 : Int32))] [(.int (1 : Int32)), (.ref tb)])) rfl (by rw [hml]; rfl) (argsL := [(.ref tb), (.int (1 : Int32))]) (rest := []) (lenOf pd__28_5bBI_29C rfl) rfl (by show 2 * 0 + _ ≤ _; exact Nat.le_of_eq rfl) (hb hby d13_12) (fun _ _ => ⟨rfl, e8, (by decide : 0 + 0 ≤ _), (by decide : 0 + 0 ≤ _)⟩)
  dsimp only [Pt.U, Pt.locs, Pt.cells, Pt.slots] at X9 l9 y9 z9 st9 hQ9
  subst l9 y9 z9
  obtain ⟨rfl, Nq9, e9⟩ := hQ9
  have N9 := Fr.app N7 Nq9
  refine own_go st9 ?_
  show ∃ t o, Steps p.tables e below (T9.setTop (mkF m 15 #[.val (.ref so), .val (.int (1 : Int32))] [(.int c1)])) t ∧ _
  obtain ⟨fs, hr, hrun, hended, hW, hsame⟩ := X9.leave (v := some (.int (nar .char c1))) (fun h => by rw [Bd.returns] at h; cases h)
  refine ⟨_, _, ?_, hrun, hended, _, _, rfl, ?_, ⟨_, rfl⟩, hW, hsame.mono (by decide) (by decide)⟩
  · exact retN X9 hx (t := .char) Bd.returns (by simp) (hb hby d13_15) hr
  · show Q_rmCh4_1 Z _ _ _ _ _ _ _ _ _ h0 n0 _ T9.heap _
    rw [e9]
    exact ⟨(congrArg (fun z => some (Value.int z)) (own_narc hrg)), N9, rfl⟩
theorem ef_rmLch4_2 (m : MethodId) (x0 : Nat) (x1 : Int32) : entryFrame m #[(.ref x0), (.int x1)] 2 = mkF m 0 #[.val (.ref x0), .val (.int x1)] [] := by first | (simp [entryFrame, mkF, argsToLocals, Value.category]; done) | rfl
def Q_rmLch4_2 (Z : State) (tb : Nat) (kb : ClassId) (c0 : Int32) (c1 : Int32) (c2 : Int32) (c3 : Int32) (gv : Value) (h0 : Heap) (n0 : Nat) (v : Option Value) (h : Heap) (L : List Loc) : Prop := v = some (.int c2) ∧ Fr n0 L ∧ h = h0
set_option maxRecDepth 65536 in
set_option maxHeartbeats 40000000 in
theorem rmLch4_2 (l : Launch) (Z : State) (a0 : Array Value) (hw : ∀ d ∈ tables_1, d.before a0 Z = true) (ws : List Jvm.Cond) (tb : Nat) (kb : ClassId) (c0 : Int32) (c1 : Int32) (c2 : Int32) (c3 : Int32) (gv : Value) (h0 : Heap) (n0 : Nat) (Z0 : n0 ≤ h0.size) (P1 : Arv Z h0 tb kb .byte (4 : Int32) [(.int (c0.toInt8.toInt32)), (.int (c1.toInt8.toInt32)), (.int (c2.toInt8.toInt32)), (.int (c3.toInt8.toInt32))] (.int (0 : Int32))) (OLD : Old Z n0 h0) (P2 : Sta Z Z.heap "jdk/internal/util/Preconditions" "SIOOBE_FORMATTER" "Ljava/util/function/BiFunction;" gv) (hrg : own_rg c2) (hgv : gv.isRef = true) :
    MetFree l (⟨"java/lang/StringLatin1", "charAt", "([BI)C"⟩ : MethodName) (head1 (Jvm.Cond.code (⟨"java/lang/StringLatin1", "charAt", "([BI)C"⟩ : MethodName) jdk_43_method_2_code 2 (some .char) :: ws) ({ frames := 2, cells := 0, slots := 0, locals := 27 } : Room)) (fun a U => a = #[(.ref tb), (.int (2 : Int32))] ∧ Z.Warmed39 U.vm ∧ U.heap = h0) (fun _ _ _ _ _ => True) (fun _ U o U' => ∃ v L, o = .returned v ∧ Q_rmLch4_2 Z tb kb c0 c1 c2 c3 gv h0 n0 v U'.heap L ∧ FrameEnd U o U' L ({ frames := 2, cells := 0, slots := 0, locals := 27 } : Room).cells ({ frames := 2, cells := 0, slots := 0, locals := 27 } : Room).slots) := by
  refine MetFree.of_bodySF (plainFor_of_name pn_java_lang_StringLatin1) hisR ?_
  intro p e s m args below meth c s₁ Bd hml0 hP hK
  obtain ⟨rfl, hZ, hh⟩ := hP
  have hx := Bd.exec
  have hby := Bd.bytes
  have hml : c.maxLocals = 2 := hml0
  have hown : s.vm.findClass "java/lang/StringLatin1" = some m.cls := findClass_of_methodNamed Bd.named
  have hnm := (name_of_methodNamed Bd.named Bd.method).1
  have X0 : Stand p l e ({ frames := 2, cells := 0, slots := 0, locals := 27 } : Room) s m #[(.ref tb), (.int (2 : Int32))] below meth c s₁ [] 0 0 := Stand.of_body Bd
  have e0 : s₁.heap = h0 := by rw [← hh, Bd.state]; rfl
  have N0 := Fr.nil n0
  have pre0 : ∀ t, Steps p.tables e below (s₁.setTop (mkF m 0 #[.val (.ref tb), .val (.int (2 : Int32))] [])) t → Steps p.tables e below (s₁.setTop (entryFrame m #[(.ref tb), (.int (2 : Int32))] 2)) t := fun t k => castTop (ef_rmLch4_2 m tb (2 : Int32)) k
  have oz := OLD.1
  have lt_tb : tb < h0.size := P1.lt
  refine own_go (B := s₁.setTop (mkF m 0 #[.val (.ref tb), .val (.int (2 : Int32))] [])) pre0 ?_
  show ∃ t o, Steps p.tables e below (s₁.setTop (mkF m 0 #[.val (.ref tb), .val (.int (2 : Int32))] [])) t ∧ _
  refine own_go (fun _ => XS.iloadN X0.here hx rfl (hb hby d15_0) rfl) ?_
  refine own_go (fun _ => XS.aloadN X0.here hx rfl (hb hby d15_1) rfl rfl) ?_
  obtain ⟨cl3, Ar3, q3, S3, N3, H3, G3⟩ := id P1
  have ln3 : cl3.slots.size.toInt32 = (4 : Int32) := len_of S3 N3
  have al3 := X0.arraylength hx (by rw [e0]; exact Ar3.1) (State.isArrayOf_alike hZ.alike Ar3.2.1) (g := (mkF m 2 #[.val (.ref tb), .val (.int (2 : Int32))] [(.ref tb), (.int (2 : Int32))])) rfl rfl (hb hby d15_2)
  rw [ln3] at al3
  refine own_go al3 ?_
  show ∃ t o, Steps p.tables e below (s₁.setTop (mkF m 3 #[.val (.ref tb), .val (.int (2 : Int32))] [(.int (4 : Int32)), (.int (2 : Int32))])) t ∧ _
  obtain ⟨_, _, ⟨T4, L4, k4, n4⟩, -, X4, ⟨Lc4, hQ4, l4, y4, z4⟩, st4⟩ := Jvm.LawKit.callS X0 hx (y := (⟨"java/lang/String", "checkIndex", "(II)V"⟩ : MethodName)) hown (mvT hZ (hw _ (List.mem_of_getElem? (i := 75) rfl))) (mvT hZ (hw _ (List.mem_of_getElem? (i := 76) rfl))) (mvT hZ (hw _ (List.mem_of_getElem? (i := 7) rfl))) (mvT hZ (hw _ (List.mem_of_getElem? (i := 77) rfl))) (by decide) (backOf (W := 0) (rmCi l Z a0 hw [] (2 : Int32) (4 : Int32) gv h0 n0 Z0 OLD P2 hgv (by decide) (by decide)) hZ (hw _ (List.mem_of_getElem? (i := 77) rfl)) (hw _ (List.mem_of_getElem? (i := 7) rfl)) (by decide) (by decide)) (g := (mkF m 3 #[.val (.ref tb), .val (.int (2 : Int32))] [(.int (4 : Int32)), (.int (2 : Int32))])) rfl (by rw [hml]; rfl) (argsL := [(.int (2 : Int32)), (.int (4 : Int32))]) (rest := []) (lenOf pd__28II_29V rfl) rfl (by show 2 * 0 + _ ≤ _; exact Nat.le_of_eq rfl) (hb hby d15_3) (fun _ _ => ⟨rfl, e0, (by decide : 0 + 0 ≤ _), (by decide : 0 + 0 ≤ _)⟩)
  dsimp only [Pt.U, Pt.locs, Pt.cells, Pt.slots] at X4 l4 y4 z4 st4 hQ4
  subst l4 y4 z4
  obtain ⟨rfl, Nq4, e4⟩ := hQ4
  have N4 := Fr.app N0 Nq4
  refine own_go st4 ?_
  refine own_go (fun _ => XS.aloadN X4.here hx rfl (hb hby d15_6) rfl rfl) ?_
  refine own_go (fun _ => XS.iloadN X4.here hx rfl (hb hby d15_7) rfl) ?_
  show ∃ t o, Steps p.tables e below (T4.setTop (mkF m 8 #[.val (.ref tb), .val (.int (2 : Int32))] [(.int (2 : Int32)), (.ref tb)])) t ∧ _
  obtain ⟨cl5, Ar5, q5, S5, N5, H5, G5⟩ := id P1
  have hin5 : ¬ ((2 : Int32) < 0 ∨ cl5.slots.size ≤ ((2 : Int32)).toNatClampNeg) := inb_of S5 ⟨by decide, by decide⟩
  have hat5 : cl5.slots[((2 : Int32)).toNatClampNeg]? = some (.int (c2.toInt8.toInt32)) := Has.at H5 hin5 rfl
  refine own_go (fun _ => X4.baloadBytes hx (j := (2 : Int32)) (v := (.int (c2.toInt8.toInt32))) (by rw [e4]; exact Ar5.1) (State.isArrayOf_alike hZ.alike Ar5.2.1) Ar5.2.2 hin5 hat5 (g := (mkF m 8 #[.val (.ref tb), .val (.int (2 : Int32))] [(.int (2 : Int32)), (.ref tb)])) rfl rfl (hb hby d15_8) _) ?_
  refine own_go (fun _ => XS.sipush X4.here hx rfl (hb hby d15_9)) ?_
  refine own_go (fun _ => XS.iand X4.here hx rfl (hb hby d15_12) rfl) ?_
  show ∃ t o, Steps p.tables e below (T4.setTop (mkF m 13 #[.val (.ref tb), .val (.int (2 : Int32))] [(.int ((c2.toInt8.toInt32) &&& (255 : Int32)))])) t ∧ _
  refine own_go (fun _ => XS.i2c X4.here hx rfl (hb hby d15_13) rfl) ?_
  show ∃ t o, Steps p.tables e below (T4.setTop (mkF m 14 #[.val (.ref tb), .val (.int (2 : Int32))] [(.int (((c2.toInt8.toInt32) &&& (255 : Int32)).toUInt32.toUInt16.toUInt32.toInt32))])) t ∧ _
  obtain ⟨fs, hr, hrun, hended, hW, hsame⟩ := X4.leave (v := some (.int (nar .char (((c2.toInt8.toInt32) &&& (255 : Int32)).toUInt32.toUInt16.toUInt32.toInt32)))) (fun h => by rw [Bd.returns] at h; cases h)
  refine ⟨_, _, ?_, hrun, hended, _, _, rfl, ?_, ⟨_, rfl⟩, hW, hsame.mono (by decide) (by decide)⟩
  · exact retN X4 hx (t := .char) Bd.returns (by simp) (hb hby d15_14) hr
  · show Q_rmLch4_2 Z _ _ _ _ _ _ _ h0 n0 _ T4.heap _
    rw [e4]
    exact ⟨(congrArg (fun z => some (Value.int z)) (own_back hrg)), N4, rfl⟩
theorem ef_rmCh4_2 (m : MethodId) (x0 : Nat) (x1 : Int32) : entryFrame m #[(.ref x0), (.int x1)] 2 = mkF m 0 #[.val (.ref x0), .val (.int x1)] [] := by first | (simp [entryFrame, mkF, argsToLocals, Value.category]; done) | rfl
def Q_rmCh4_2 (Z : State) (so : Nat) (tb : Nat) (kb : ClassId) (c0 : Int32) (c1 : Int32) (c2 : Int32) (c3 : Int32) (zc : Int32) (gv : Value) (h0 : Heap) (n0 : Nat) (v : Option Value) (h : Heap) (L : List Loc) : Prop := v = some (.int c2) ∧ Fr n0 L ∧ h = h0
set_option maxRecDepth 65536 in
set_option maxHeartbeats 40000000 in
theorem rmCh4_2 (l : Launch) (Z : State) (a0 : Array Value) (hw : ∀ d ∈ tables_1, d.before a0 Z = true) (ws : List Jvm.Cond) (so : Nat) (tb : Nat) (kb : ClassId) (c0 : Int32) (c1 : Int32) (c2 : Int32) (c3 : Int32) (zc : Int32) (gv : Value) (h0 : Heap) (n0 : Nat) (Z0 : n0 ≤ h0.size) (P1 : Exa Z h0 so "java/lang/String") (P2 : Fld Z h0 so "java/lang/String" "value" "[B" (.ref tb)) (P3 : Fld Z h0 so "java/lang/String" "coder" "B" (.int (0 : Int32))) (P4 : Arv Z h0 tb kb .byte (4 : Int32) [(.int (c0.toInt8.toInt32)), (.int (c1.toInt8.toInt32)), (.int (c2.toInt8.toInt32)), (.int (c3.toInt8.toInt32))] (.int (0 : Int32))) (OLD : Old Z n0 h0) (P5 : Sta Z Z.heap "java/lang/String" "COMPACT_STRINGS" "Z" (.int zc)) (P6 : Sta Z Z.heap "jdk/internal/util/Preconditions" "SIOOBE_FORMATTER" "Ljava/util/function/BiFunction;" gv) (hzc : ¬ (zc = (0 : Int32))) (hgv : gv.isRef = true) (hrg : own_rg c2) :
    MetFree l (⟨"java/lang/String", "charAt", "(I)C"⟩ : MethodName) (head1 (Jvm.Cond.code (⟨"java/lang/String", "charAt", "(I)C"⟩ : MethodName) jdk_42_method_56_code 2 (some .char) :: ws) ({ frames := 3, cells := 0, slots := 0, locals := 40 } : Room)) (fun a U => a = #[(.ref so), (.int (2 : Int32))] ∧ Z.Warmed39 U.vm ∧ U.heap = h0) (fun _ _ _ _ _ => True) (fun _ U o U' => ∃ v L, o = .returned v ∧ Q_rmCh4_2 Z so tb kb c0 c1 c2 c3 zc gv h0 n0 v U'.heap L ∧ FrameEnd U o U' L ({ frames := 3, cells := 0, slots := 0, locals := 40 } : Room).cells ({ frames := 3, cells := 0, slots := 0, locals := 40 } : Room).slots) := by
  refine MetFree.of_bodySF (plainFor_of_name pn_java_lang_String) hisR ?_
  intro p e s m args below meth c s₁ Bd hml0 hP hK
  obtain ⟨rfl, hZ, hh⟩ := hP
  have hx := Bd.exec
  have hby := Bd.bytes
  have hml : c.maxLocals = 2 := hml0
  have hown : s.vm.findClass "java/lang/String" = some m.cls := findClass_of_methodNamed Bd.named
  have hnm := (name_of_methodNamed Bd.named Bd.method).1
  have X0 : Stand p l e ({ frames := 3, cells := 0, slots := 0, locals := 40 } : Room) s m #[(.ref so), (.int (2 : Int32))] below meth c s₁ [] 0 0 := Stand.of_body Bd
  have e0 : s₁.heap = h0 := by rw [← hh, Bd.state]; rfl
  have N0 := Fr.nil n0
  have pre0 : ∀ t, Steps p.tables e below (s₁.setTop (mkF m 0 #[.val (.ref so), .val (.int (2 : Int32))] [])) t → Steps p.tables e below (s₁.setTop (entryFrame m #[(.ref so), (.int (2 : Int32))] 2)) t := fun t k => castTop (ef_rmCh4_2 m so (2 : Int32)) k
  have oz := OLD.1
  have lt_so : so < h0.size := P1.lt
  have lt_tb : tb < h0.size := P4.lt
  refine own_go (B := s₁.setTop (mkF m 0 #[.val (.ref so), .val (.int (2 : Int32))] [])) pre0 ?_
  show ∃ t o, Steps p.tables e below (s₁.setTop (mkF m 0 #[.val (.ref so), .val (.int (2 : Int32))] [])) t ∧ _
  refine own_go (fun _ => XS.aloadN X0.here hx rfl (hb hby d13_0) rfl rfl) ?_
  show ∃ t o, Steps p.tables e below (s₁.setTop (mkF m 1 #[.val (.ref so), .val (.int (2 : Int32))] [(.ref so)])) t ∧ _
  obtain ⟨cq7, kq7, q7a, q7b, q7c⟩ := isOf hZ e0 P1
  obtain ⟨_, _, ⟨T7, L7, k7, n7⟩, -, X7, ⟨Lc7, hQ7, l7, y7, z7⟩, st7⟩ := X0.virtualBack hx (y := (⟨"java/lang/String", "isLatin1", "()Z"⟩ : MethodName)) (z := (⟨"java/lang/String", "isLatin1", "()Z"⟩ : MethodName)) hown (mvT hZ (hw _ (List.mem_of_getElem? (i := 66) rfl))) (mvT hZ (hw _ (List.mem_of_getElem? (i := 67) rfl))) (notFace_of_selects (args := #[]) (mvT hZ (hw _ (List.mem_of_getElem? (i := 69) rfl)))) (mvT hZ (hw _ (List.mem_of_getElem? (i := 69) rfl))) (mvT hZ (hw _ (List.mem_of_getElem? (i := 68) rfl))) (by decide) (backOf (W := 0) (rmLat l Z a0 hw [] so zc h0 n0 Z0 P3 OLD P5 hzc) hZ (hw _ (List.mem_of_getElem? (i := 70) rfl)) (hw _ (List.mem_of_getElem? (i := 7) rfl)) (by decide) (by decide)) q7a q7c (g := (mkF m 1 #[.val (.ref so), .val (.int (2 : Int32))] [(.ref so)])) rfl (by rw [hml]; rfl) (Steps.refl _) (argsL := []) (rest := []) (lenOf pd__28_29Z rfl) rfl (by show 2 * 0 + _ ≤ _; exact Nat.le_of_eq rfl) (hb hby d13_1) (fun _ _ => ⟨rfl, e0, (by decide : 0 + 0 ≤ _), (by decide : 0 + 0 ≤ _)⟩)
  dsimp only [Pt.U, Pt.locs, Pt.cells, Pt.slots] at X7 l7 y7 z7 st7 hQ7
  subst l7 y7 z7
  obtain ⟨rfl, Nq7, e7⟩ := hQ7
  have N7 := Fr.app N0 Nq7
  refine own_goT st7 ?_
  show ∃ t o, Steps p.tables e below (T7.setTop (mkF m 4 #[.val (.ref so), .val (.int (2 : Int32))] [(.int (1 : Int32))])) t ∧ _
  refine own_go (fun _ => XS.ifNo X7.here hx rfl (hb hby d13_4) rfl ((if0 _ _).trans (feq (by decide : ¬ ((1 : Int32) = (0 : Int32)))).1)) ?_
  refine own_go (fun _ => XS.aloadN X7.here hx rfl (hb hby d13_7) rfl rfl) ?_
  obtain ⟨T8, X8, e8, st8⟩ := getF X7 hx hZ hown (host := "") (Or.inl (hw _ (List.mem_of_getElem? (i := 33) rfl))) Via.refl e7 P2 (g := (mkF m 8 #[.val (.ref so), .val (.int (2 : Int32))] [(.ref so)])) rfl rfl (hb hby d13_8)
  refine own_go st8 ?_
  show ∃ t o, Steps p.tables e below (T8.setTop (mkF m 11 #[.val (.ref so), .val (.int (2 : Int32))] [(.ref tb)])) t ∧ _
  refine own_go (fun _ => XS.iloadN X8.here hx rfl (hb hby d13_11) rfl) ?_
  show ∃ t o, Steps p.tables e below (T8.setTop (mkF m 12 #[.val (.ref so), .val (.int (2 : Int32))] [(.int (2 : Int32)), (.ref tb)])) t ∧ _
  obtain ⟨_, _, ⟨T9, L9, k9, n9⟩, -, X9, ⟨Lc9, hQ9, l9, y9, z9⟩, st9⟩ := Jvm.LawKit.callS X8 hx (y := (⟨"java/lang/StringLatin1", "charAt", "([BI)C"⟩ : MethodName)) hown (mvT hZ (hw _ (List.mem_of_getElem? (i := 71) rfl))) (mvT hZ (hw _ (List.mem_of_getElem? (i := 72) rfl))) (mvT hZ (hw _ (List.mem_of_getElem? (i := 73) rfl))) (mvT hZ (hw _ (List.mem_of_getElem? (i := 74) rfl))) (by decide) (backOf (W := 0) (rmLch4_2 l Z a0 hw [] tb kb c0 c1 c2 c3 gv h0 n0 Z0 P4 OLD P6 hrg hgv) hZ (hw _ (List.mem_of_getElem? (i := 74) rfl)) (hw _ (List.mem_of_getElem? (i := 73) rfl)) (by decide) (by decide)) (g := (mkF m 12 #[.val (.ref so), .val (.int (2 : Int32))] [(.int (2 : Int32)), (.ref tb)])) rfl (by rw [hml]; rfl) (argsL := [(.ref tb), (.int (2 : Int32))]) (rest := []) (lenOf pd__28_5bBI_29C rfl) rfl (by show 2 * 0 + _ ≤ _; exact Nat.le_of_eq rfl) (hb hby d13_12) (fun _ _ => ⟨rfl, e8, (by decide : 0 + 0 ≤ _), (by decide : 0 + 0 ≤ _)⟩)
  dsimp only [Pt.U, Pt.locs, Pt.cells, Pt.slots] at X9 l9 y9 z9 st9 hQ9
  subst l9 y9 z9
  obtain ⟨rfl, Nq9, e9⟩ := hQ9
  have N9 := Fr.app N7 Nq9
  refine own_go st9 ?_
  show ∃ t o, Steps p.tables e below (T9.setTop (mkF m 15 #[.val (.ref so), .val (.int (2 : Int32))] [(.int c2)])) t ∧ _
  obtain ⟨fs, hr, hrun, hended, hW, hsame⟩ := X9.leave (v := some (.int (nar .char c2))) (fun h => by rw [Bd.returns] at h; cases h)
  refine ⟨_, _, ?_, hrun, hended, _, _, rfl, ?_, ⟨_, rfl⟩, hW, hsame.mono (by decide) (by decide)⟩
  · exact retN X9 hx (t := .char) Bd.returns (by simp) (hb hby d13_15) hr
  · show Q_rmCh4_2 Z _ _ _ _ _ _ _ _ _ h0 n0 _ T9.heap _
    rw [e9]
    exact ⟨(congrArg (fun z => some (Value.int z)) (own_narc hrg)), N9, rfl⟩
theorem ef_rmLch4_3 (m : MethodId) (x0 : Nat) (x1 : Int32) : entryFrame m #[(.ref x0), (.int x1)] 2 = mkF m 0 #[.val (.ref x0), .val (.int x1)] [] := by first | (simp [entryFrame, mkF, argsToLocals, Value.category]; done) | rfl
def Q_rmLch4_3 (Z : State) (tb : Nat) (kb : ClassId) (c0 : Int32) (c1 : Int32) (c2 : Int32) (c3 : Int32) (gv : Value) (h0 : Heap) (n0 : Nat) (v : Option Value) (h : Heap) (L : List Loc) : Prop := v = some (.int c3) ∧ Fr n0 L ∧ h = h0
set_option maxRecDepth 65536 in
set_option maxHeartbeats 40000000 in
theorem rmLch4_3 (l : Launch) (Z : State) (a0 : Array Value) (hw : ∀ d ∈ tables_1, d.before a0 Z = true) (ws : List Jvm.Cond) (tb : Nat) (kb : ClassId) (c0 : Int32) (c1 : Int32) (c2 : Int32) (c3 : Int32) (gv : Value) (h0 : Heap) (n0 : Nat) (Z0 : n0 ≤ h0.size) (P1 : Arv Z h0 tb kb .byte (4 : Int32) [(.int (c0.toInt8.toInt32)), (.int (c1.toInt8.toInt32)), (.int (c2.toInt8.toInt32)), (.int (c3.toInt8.toInt32))] (.int (0 : Int32))) (OLD : Old Z n0 h0) (P2 : Sta Z Z.heap "jdk/internal/util/Preconditions" "SIOOBE_FORMATTER" "Ljava/util/function/BiFunction;" gv) (hrg : own_rg c3) (hgv : gv.isRef = true) :
    MetFree l (⟨"java/lang/StringLatin1", "charAt", "([BI)C"⟩ : MethodName) (head1 (Jvm.Cond.code (⟨"java/lang/StringLatin1", "charAt", "([BI)C"⟩ : MethodName) jdk_43_method_2_code 2 (some .char) :: ws) ({ frames := 2, cells := 0, slots := 0, locals := 27 } : Room)) (fun a U => a = #[(.ref tb), (.int (3 : Int32))] ∧ Z.Warmed39 U.vm ∧ U.heap = h0) (fun _ _ _ _ _ => True) (fun _ U o U' => ∃ v L, o = .returned v ∧ Q_rmLch4_3 Z tb kb c0 c1 c2 c3 gv h0 n0 v U'.heap L ∧ FrameEnd U o U' L ({ frames := 2, cells := 0, slots := 0, locals := 27 } : Room).cells ({ frames := 2, cells := 0, slots := 0, locals := 27 } : Room).slots) := by
  refine MetFree.of_bodySF (plainFor_of_name pn_java_lang_StringLatin1) hisR ?_
  intro p e s m args below meth c s₁ Bd hml0 hP hK
  obtain ⟨rfl, hZ, hh⟩ := hP
  have hx := Bd.exec
  have hby := Bd.bytes
  have hml : c.maxLocals = 2 := hml0
  have hown : s.vm.findClass "java/lang/StringLatin1" = some m.cls := findClass_of_methodNamed Bd.named
  have hnm := (name_of_methodNamed Bd.named Bd.method).1
  have X0 : Stand p l e ({ frames := 2, cells := 0, slots := 0, locals := 27 } : Room) s m #[(.ref tb), (.int (3 : Int32))] below meth c s₁ [] 0 0 := Stand.of_body Bd
  have e0 : s₁.heap = h0 := by rw [← hh, Bd.state]; rfl
  have N0 := Fr.nil n0
  have pre0 : ∀ t, Steps p.tables e below (s₁.setTop (mkF m 0 #[.val (.ref tb), .val (.int (3 : Int32))] [])) t → Steps p.tables e below (s₁.setTop (entryFrame m #[(.ref tb), (.int (3 : Int32))] 2)) t := fun t k => castTop (ef_rmLch4_3 m tb (3 : Int32)) k
  have oz := OLD.1
  have lt_tb : tb < h0.size := P1.lt
  refine own_go (B := s₁.setTop (mkF m 0 #[.val (.ref tb), .val (.int (3 : Int32))] [])) pre0 ?_
  show ∃ t o, Steps p.tables e below (s₁.setTop (mkF m 0 #[.val (.ref tb), .val (.int (3 : Int32))] [])) t ∧ _
  refine own_go (fun _ => XS.iloadN X0.here hx rfl (hb hby d15_0) rfl) ?_
  refine own_go (fun _ => XS.aloadN X0.here hx rfl (hb hby d15_1) rfl rfl) ?_
  obtain ⟨cl3, Ar3, q3, S3, N3, H3, G3⟩ := id P1
  have ln3 : cl3.slots.size.toInt32 = (4 : Int32) := len_of S3 N3
  have al3 := X0.arraylength hx (by rw [e0]; exact Ar3.1) (State.isArrayOf_alike hZ.alike Ar3.2.1) (g := (mkF m 2 #[.val (.ref tb), .val (.int (3 : Int32))] [(.ref tb), (.int (3 : Int32))])) rfl rfl (hb hby d15_2)
  rw [ln3] at al3
  refine own_go al3 ?_
  show ∃ t o, Steps p.tables e below (s₁.setTop (mkF m 3 #[.val (.ref tb), .val (.int (3 : Int32))] [(.int (4 : Int32)), (.int (3 : Int32))])) t ∧ _
  obtain ⟨_, _, ⟨T4, L4, k4, n4⟩, -, X4, ⟨Lc4, hQ4, l4, y4, z4⟩, st4⟩ := Jvm.LawKit.callS X0 hx (y := (⟨"java/lang/String", "checkIndex", "(II)V"⟩ : MethodName)) hown (mvT hZ (hw _ (List.mem_of_getElem? (i := 75) rfl))) (mvT hZ (hw _ (List.mem_of_getElem? (i := 76) rfl))) (mvT hZ (hw _ (List.mem_of_getElem? (i := 7) rfl))) (mvT hZ (hw _ (List.mem_of_getElem? (i := 77) rfl))) (by decide) (backOf (W := 0) (rmCi l Z a0 hw [] (3 : Int32) (4 : Int32) gv h0 n0 Z0 OLD P2 hgv (by decide) (by decide)) hZ (hw _ (List.mem_of_getElem? (i := 77) rfl)) (hw _ (List.mem_of_getElem? (i := 7) rfl)) (by decide) (by decide)) (g := (mkF m 3 #[.val (.ref tb), .val (.int (3 : Int32))] [(.int (4 : Int32)), (.int (3 : Int32))])) rfl (by rw [hml]; rfl) (argsL := [(.int (3 : Int32)), (.int (4 : Int32))]) (rest := []) (lenOf pd__28II_29V rfl) rfl (by show 2 * 0 + _ ≤ _; exact Nat.le_of_eq rfl) (hb hby d15_3) (fun _ _ => ⟨rfl, e0, (by decide : 0 + 0 ≤ _), (by decide : 0 + 0 ≤ _)⟩)
  dsimp only [Pt.U, Pt.locs, Pt.cells, Pt.slots] at X4 l4 y4 z4 st4 hQ4
  subst l4 y4 z4
  obtain ⟨rfl, Nq4, e4⟩ := hQ4
  have N4 := Fr.app N0 Nq4
  refine own_go st4 ?_
  refine own_go (fun _ => XS.aloadN X4.here hx rfl (hb hby d15_6) rfl rfl) ?_
  refine own_go (fun _ => XS.iloadN X4.here hx rfl (hb hby d15_7) rfl) ?_
  show ∃ t o, Steps p.tables e below (T4.setTop (mkF m 8 #[.val (.ref tb), .val (.int (3 : Int32))] [(.int (3 : Int32)), (.ref tb)])) t ∧ _
  obtain ⟨cl5, Ar5, q5, S5, N5, H5, G5⟩ := id P1
  have hin5 : ¬ ((3 : Int32) < 0 ∨ cl5.slots.size ≤ ((3 : Int32)).toNatClampNeg) := inb_of S5 ⟨by decide, by decide⟩
  have hat5 : cl5.slots[((3 : Int32)).toNatClampNeg]? = some (.int (c3.toInt8.toInt32)) := Has.at H5 hin5 rfl
  refine own_go (fun _ => X4.baloadBytes hx (j := (3 : Int32)) (v := (.int (c3.toInt8.toInt32))) (by rw [e4]; exact Ar5.1) (State.isArrayOf_alike hZ.alike Ar5.2.1) Ar5.2.2 hin5 hat5 (g := (mkF m 8 #[.val (.ref tb), .val (.int (3 : Int32))] [(.int (3 : Int32)), (.ref tb)])) rfl rfl (hb hby d15_8) _) ?_
  refine own_go (fun _ => XS.sipush X4.here hx rfl (hb hby d15_9)) ?_
  refine own_go (fun _ => XS.iand X4.here hx rfl (hb hby d15_12) rfl) ?_
  show ∃ t o, Steps p.tables e below (T4.setTop (mkF m 13 #[.val (.ref tb), .val (.int (3 : Int32))] [(.int ((c3.toInt8.toInt32) &&& (255 : Int32)))])) t ∧ _
  refine own_go (fun _ => XS.i2c X4.here hx rfl (hb hby d15_13) rfl) ?_
  show ∃ t o, Steps p.tables e below (T4.setTop (mkF m 14 #[.val (.ref tb), .val (.int (3 : Int32))] [(.int (((c3.toInt8.toInt32) &&& (255 : Int32)).toUInt32.toUInt16.toUInt32.toInt32))])) t ∧ _
  obtain ⟨fs, hr, hrun, hended, hW, hsame⟩ := X4.leave (v := some (.int (nar .char (((c3.toInt8.toInt32) &&& (255 : Int32)).toUInt32.toUInt16.toUInt32.toInt32)))) (fun h => by rw [Bd.returns] at h; cases h)
  refine ⟨_, _, ?_, hrun, hended, _, _, rfl, ?_, ⟨_, rfl⟩, hW, hsame.mono (by decide) (by decide)⟩
  · exact retN X4 hx (t := .char) Bd.returns (by simp) (hb hby d15_14) hr
  · show Q_rmLch4_3 Z _ _ _ _ _ _ _ h0 n0 _ T4.heap _
    rw [e4]
    exact ⟨(congrArg (fun z => some (Value.int z)) (own_back hrg)), N4, rfl⟩
theorem ef_rmCh4_3 (m : MethodId) (x0 : Nat) (x1 : Int32) : entryFrame m #[(.ref x0), (.int x1)] 2 = mkF m 0 #[.val (.ref x0), .val (.int x1)] [] := by first | (simp [entryFrame, mkF, argsToLocals, Value.category]; done) | rfl
def Q_rmCh4_3 (Z : State) (so : Nat) (tb : Nat) (kb : ClassId) (c0 : Int32) (c1 : Int32) (c2 : Int32) (c3 : Int32) (zc : Int32) (gv : Value) (h0 : Heap) (n0 : Nat) (v : Option Value) (h : Heap) (L : List Loc) : Prop := v = some (.int c3) ∧ Fr n0 L ∧ h = h0
set_option maxRecDepth 65536 in
set_option maxHeartbeats 40000000 in
theorem rmCh4_3 (l : Launch) (Z : State) (a0 : Array Value) (hw : ∀ d ∈ tables_1, d.before a0 Z = true) (ws : List Jvm.Cond) (so : Nat) (tb : Nat) (kb : ClassId) (c0 : Int32) (c1 : Int32) (c2 : Int32) (c3 : Int32) (zc : Int32) (gv : Value) (h0 : Heap) (n0 : Nat) (Z0 : n0 ≤ h0.size) (P1 : Exa Z h0 so "java/lang/String") (P2 : Fld Z h0 so "java/lang/String" "value" "[B" (.ref tb)) (P3 : Fld Z h0 so "java/lang/String" "coder" "B" (.int (0 : Int32))) (P4 : Arv Z h0 tb kb .byte (4 : Int32) [(.int (c0.toInt8.toInt32)), (.int (c1.toInt8.toInt32)), (.int (c2.toInt8.toInt32)), (.int (c3.toInt8.toInt32))] (.int (0 : Int32))) (OLD : Old Z n0 h0) (P5 : Sta Z Z.heap "java/lang/String" "COMPACT_STRINGS" "Z" (.int zc)) (P6 : Sta Z Z.heap "jdk/internal/util/Preconditions" "SIOOBE_FORMATTER" "Ljava/util/function/BiFunction;" gv) (hzc : ¬ (zc = (0 : Int32))) (hgv : gv.isRef = true) (hrg : own_rg c3) :
    MetFree l (⟨"java/lang/String", "charAt", "(I)C"⟩ : MethodName) (head1 (Jvm.Cond.code (⟨"java/lang/String", "charAt", "(I)C"⟩ : MethodName) jdk_42_method_56_code 2 (some .char) :: ws) ({ frames := 3, cells := 0, slots := 0, locals := 40 } : Room)) (fun a U => a = #[(.ref so), (.int (3 : Int32))] ∧ Z.Warmed39 U.vm ∧ U.heap = h0) (fun _ _ _ _ _ => True) (fun _ U o U' => ∃ v L, o = .returned v ∧ Q_rmCh4_3 Z so tb kb c0 c1 c2 c3 zc gv h0 n0 v U'.heap L ∧ FrameEnd U o U' L ({ frames := 3, cells := 0, slots := 0, locals := 40 } : Room).cells ({ frames := 3, cells := 0, slots := 0, locals := 40 } : Room).slots) := by
  refine MetFree.of_bodySF (plainFor_of_name pn_java_lang_String) hisR ?_
  intro p e s m args below meth c s₁ Bd hml0 hP hK
  obtain ⟨rfl, hZ, hh⟩ := hP
  have hx := Bd.exec
  have hby := Bd.bytes
  have hml : c.maxLocals = 2 := hml0
  have hown : s.vm.findClass "java/lang/String" = some m.cls := findClass_of_methodNamed Bd.named
  have hnm := (name_of_methodNamed Bd.named Bd.method).1
  have X0 : Stand p l e ({ frames := 3, cells := 0, slots := 0, locals := 40 } : Room) s m #[(.ref so), (.int (3 : Int32))] below meth c s₁ [] 0 0 := Stand.of_body Bd
  have e0 : s₁.heap = h0 := by rw [← hh, Bd.state]; rfl
  have N0 := Fr.nil n0
  have pre0 : ∀ t, Steps p.tables e below (s₁.setTop (mkF m 0 #[.val (.ref so), .val (.int (3 : Int32))] [])) t → Steps p.tables e below (s₁.setTop (entryFrame m #[(.ref so), (.int (3 : Int32))] 2)) t := fun t k => castTop (ef_rmCh4_3 m so (3 : Int32)) k
  have oz := OLD.1
  have lt_so : so < h0.size := P1.lt
  have lt_tb : tb < h0.size := P4.lt
  refine own_go (B := s₁.setTop (mkF m 0 #[.val (.ref so), .val (.int (3 : Int32))] [])) pre0 ?_
  show ∃ t o, Steps p.tables e below (s₁.setTop (mkF m 0 #[.val (.ref so), .val (.int (3 : Int32))] [])) t ∧ _
  refine own_go (fun _ => XS.aloadN X0.here hx rfl (hb hby d13_0) rfl rfl) ?_
  show ∃ t o, Steps p.tables e below (s₁.setTop (mkF m 1 #[.val (.ref so), .val (.int (3 : Int32))] [(.ref so)])) t ∧ _
  obtain ⟨cq7, kq7, q7a, q7b, q7c⟩ := isOf hZ e0 P1
  obtain ⟨_, _, ⟨T7, L7, k7, n7⟩, -, X7, ⟨Lc7, hQ7, l7, y7, z7⟩, st7⟩ := X0.virtualBack hx (y := (⟨"java/lang/String", "isLatin1", "()Z"⟩ : MethodName)) (z := (⟨"java/lang/String", "isLatin1", "()Z"⟩ : MethodName)) hown (mvT hZ (hw _ (List.mem_of_getElem? (i := 66) rfl))) (mvT hZ (hw _ (List.mem_of_getElem? (i := 67) rfl))) (notFace_of_selects (args := #[]) (mvT hZ (hw _ (List.mem_of_getElem? (i := 69) rfl)))) (mvT hZ (hw _ (List.mem_of_getElem? (i := 69) rfl))) (mvT hZ (hw _ (List.mem_of_getElem? (i := 68) rfl))) (by decide) (backOf (W := 0) (rmLat l Z a0 hw [] so zc h0 n0 Z0 P3 OLD P5 hzc) hZ (hw _ (List.mem_of_getElem? (i := 70) rfl)) (hw _ (List.mem_of_getElem? (i := 7) rfl)) (by decide) (by decide)) q7a q7c (g := (mkF m 1 #[.val (.ref so), .val (.int (3 : Int32))] [(.ref so)])) rfl (by rw [hml]; rfl) (Steps.refl _) (argsL := []) (rest := []) (lenOf pd__28_29Z rfl) rfl (by show 2 * 0 + _ ≤ _; exact Nat.le_of_eq rfl) (hb hby d13_1) (fun _ _ => ⟨rfl, e0, (by decide : 0 + 0 ≤ _), (by decide : 0 + 0 ≤ _)⟩)
  dsimp only [Pt.U, Pt.locs, Pt.cells, Pt.slots] at X7 l7 y7 z7 st7 hQ7
  subst l7 y7 z7
  obtain ⟨rfl, Nq7, e7⟩ := hQ7
  have N7 := Fr.app N0 Nq7
  refine own_goT st7 ?_
  show ∃ t o, Steps p.tables e below (T7.setTop (mkF m 4 #[.val (.ref so), .val (.int (3 : Int32))] [(.int (1 : Int32))])) t ∧ _
  refine own_go (fun _ => XS.ifNo X7.here hx rfl (hb hby d13_4) rfl ((if0 _ _).trans (feq (by decide : ¬ ((1 : Int32) = (0 : Int32)))).1)) ?_
  refine own_go (fun _ => XS.aloadN X7.here hx rfl (hb hby d13_7) rfl rfl) ?_
  obtain ⟨T8, X8, e8, st8⟩ := getF X7 hx hZ hown (host := "") (Or.inl (hw _ (List.mem_of_getElem? (i := 33) rfl))) Via.refl e7 P2 (g := (mkF m 8 #[.val (.ref so), .val (.int (3 : Int32))] [(.ref so)])) rfl rfl (hb hby d13_8)
  refine own_go st8 ?_
  show ∃ t o, Steps p.tables e below (T8.setTop (mkF m 11 #[.val (.ref so), .val (.int (3 : Int32))] [(.ref tb)])) t ∧ _
  refine own_go (fun _ => XS.iloadN X8.here hx rfl (hb hby d13_11) rfl) ?_
  show ∃ t o, Steps p.tables e below (T8.setTop (mkF m 12 #[.val (.ref so), .val (.int (3 : Int32))] [(.int (3 : Int32)), (.ref tb)])) t ∧ _
  obtain ⟨_, _, ⟨T9, L9, k9, n9⟩, -, X9, ⟨Lc9, hQ9, l9, y9, z9⟩, st9⟩ := Jvm.LawKit.callS X8 hx (y := (⟨"java/lang/StringLatin1", "charAt", "([BI)C"⟩ : MethodName)) hown (mvT hZ (hw _ (List.mem_of_getElem? (i := 71) rfl))) (mvT hZ (hw _ (List.mem_of_getElem? (i := 72) rfl))) (mvT hZ (hw _ (List.mem_of_getElem? (i := 73) rfl))) (mvT hZ (hw _ (List.mem_of_getElem? (i := 74) rfl))) (by decide) (backOf (W := 0) (rmLch4_3 l Z a0 hw [] tb kb c0 c1 c2 c3 gv h0 n0 Z0 P4 OLD P6 hrg hgv) hZ (hw _ (List.mem_of_getElem? (i := 74) rfl)) (hw _ (List.mem_of_getElem? (i := 73) rfl)) (by decide) (by decide)) (g := (mkF m 12 #[.val (.ref so), .val (.int (3 : Int32))] [(.int (3 : Int32)), (.ref tb)])) rfl (by rw [hml]; rfl) (argsL := [(.ref tb), (.int (3 : Int32))]) (rest := []) (lenOf pd__28_5bBI_29C rfl) rfl (by show 2 * 0 + _ ≤ _; exact Nat.le_of_eq rfl) (hb hby d13_12) (fun _ _ => ⟨rfl, e8, (by decide : 0 + 0 ≤ _), (by decide : 0 + 0 ≤ _)⟩)
  dsimp only [Pt.U, Pt.locs, Pt.cells, Pt.slots] at X9 l9 y9 z9 st9 hQ9
  subst l9 y9 z9
  obtain ⟨rfl, Nq9, e9⟩ := hQ9
  have N9 := Fr.app N7 Nq9
  refine own_go st9 ?_
  show ∃ t o, Steps p.tables e below (T9.setTop (mkF m 15 #[.val (.ref so), .val (.int (3 : Int32))] [(.int c3)])) t ∧ _
  obtain ⟨fs, hr, hrun, hended, hW, hsame⟩ := X9.leave (v := some (.int (nar .char c3))) (fun h => by rw [Bd.returns] at h; cases h)
  refine ⟨_, _, ?_, hrun, hended, _, _, rfl, ?_, ⟨_, rfl⟩, hW, hsame.mono (by decide) (by decide)⟩
  · exact retN X9 hx (t := .char) Bd.returns (by simp) (hb hby d13_15) hr
  · show Q_rmCh4_3 Z _ _ _ _ _ _ _ _ _ h0 n0 _ T9.heap _
    rw [e9]
    exact ⟨(congrArg (fun z => some (Value.int z)) (own_narc hrg)), N9, rfl⟩
theorem ef_rmOf4 (m : MethodId) (x0 : Nat) : entryFrame m #[(.ref x0)] 2 = mkF m 0 #[.val (.ref x0), .unset] [] := by first | (simp [entryFrame, mkF, argsToLocals, Value.category]; done) | rfl
def Q_rmOf4 (Z : State) (so : Nat) (tb : Nat) (kb : ClassId) (c0 : Int32) (c1 : Int32) (c2 : Int32) (c3 : Int32) (zc : Int32) (gv : Value) (h0 : Heap) (n0 : Nat) (v : Option Value) (h : Heap) (L : List Loc) : Prop := ∃ (b : Nat), v = some (.ref b) ∧ Fr n0 L ∧ Keep h0 h [] ∧ Exa Z h b "com/example/libtardy/libtardy/QueueName" ∧ Fld Z h b "com/example/libtardy/libtardy/QueueName" "name" "Ljava/lang/String;" (.ref so)
set_option maxRecDepth 65536 in
set_option maxHeartbeats 40000000 in
theorem rmOf4 (l : Launch) (Z : State) (a0 : Array Value) (hw : ∀ d ∈ tables_1, d.before a0 Z = true) (ws : List Jvm.Cond) (so : Nat) (tb : Nat) (kb : ClassId) (c0 : Int32) (c1 : Int32) (c2 : Int32) (c3 : Int32) (zc : Int32) (gv : Value) (h0 : Heap) (n0 : Nat) (Z0 : n0 ≤ h0.size) (P1 : Exa Z h0 so "java/lang/String") (P2 : Fld Z h0 so "java/lang/String" "value" "[B" (.ref tb)) (P3 : Fld Z h0 so "java/lang/String" "coder" "B" (.int (0 : Int32))) (P4 : Arv Z h0 tb kb .byte (4 : Int32) [(.int (c0.toInt8.toInt32)), (.int (c1.toInt8.toInt32)), (.int (c2.toInt8.toInt32)), (.int (c3.toInt8.toInt32))] (.int (0 : Int32))) (OLD : Old Z n0 h0) (P5 : Sta Z Z.heap "java/lang/String" "COMPACT_STRINGS" "Z" (.int zc)) (P6 : Sta Z Z.heap "jdk/internal/util/Preconditions" "SIOOBE_FORMATTER" "Ljava/util/function/BiFunction;" gv) (hzc : ¬ (zc = (0 : Int32))) (hgv : gv.isRef = true) (ok0 : own_ok c0) (ok1 : own_ok c1) (ok2 : own_ok c2) (ok3 : own_ok c3) :
    MetFree l (⟨"com/example/libtardy/libtardy/QueueName", "of", "(Ljava/lang/String;)Lcom/example/libtardy/libtardy/QueueName;"⟩ : MethodName) (head1 (Jvm.Cond.code (⟨"com/example/libtardy/libtardy/QueueName", "of", "(Ljava/lang/String;)Lcom/example/libtardy/libtardy/QueueName;"⟩ : MethodName) prog_6_method_2_code 2 (some (.object "com/example/libtardy/libtardy/QueueName")) :: ws) ({ frames := 4, cells := 3, slots := 21, locals := 53 } : Room)) (fun a U => a = #[(.ref so)] ∧ Z.Warmed39 U.vm ∧ U.heap = h0) (fun _ _ _ _ _ => True) (fun _ U o U' => ∃ v L, o = .returned v ∧ Q_rmOf4 Z so tb kb c0 c1 c2 c3 zc gv h0 n0 v U'.heap L ∧ ReturnedEndW U o U' L ({ frames := 4, cells := 3, slots := 21, locals := 53 } : Room).cells ({ frames := 4, cells := 3, slots := 21, locals := 53 } : Room).slots) := by
  refine MetFree.of_bodySF (plainFor_of_name pn_com_example_libtardy_libtardy_QueueName) hisR ?_
  intro p e s m args below meth c s₁ Bd hml0 hP hK
  obtain ⟨rfl, hZ, hh⟩ := hP
  have hx := Bd.exec
  have hby := Bd.bytes
  have hml : c.maxLocals = 2 := hml0
  have hown : s.vm.findClass "com/example/libtardy/libtardy/QueueName" = some m.cls := findClass_of_methodNamed Bd.named
  have hnm := (name_of_methodNamed Bd.named Bd.method).1
  have X0 : Stand p l e ({ frames := 4, cells := 3, slots := 21, locals := 53 } : Room) (s.setVm s.vm) m #[(.ref so)] below meth c s₁ [] 0 0 := Stand.of_body Bd
  have e0 : s₁.heap = h0 := by rw [← hh, Bd.state]; rfl
  have N0 := Fr.nil n0
  have pre0 : ∀ t, Steps p.tables e below (s₁.setTop (mkF m 0 #[.val (.ref so), .unset] [])) t → Steps p.tables e below (s₁.setTop (entryFrame m #[(.ref so)] 2)) t := fun t k => castTop (ef_rmOf4 m so) k
  have hZ : Z.Warmed39 (s.setVm s.vm).vm := hZ
  have hown : (s.setVm s.vm).vm.findClass "com/example/libtardy/libtardy/QueueName" = some m.cls := hown
  have hS : s.Since s.vm 0 := (State.WarmedH.refl s).since 0
  have wS : ∀ a ∈ Bundle.stringAtoms, a.before a0 Z = true := fun d hd => hw d ((by decide +kernel : ∀ d ∈ Bundle.stringAtoms, d ∈ tables_1) d hd)
  have oz := OLD.1
  have lt_so : so < h0.size := P1.lt
  have lt_tb : tb < h0.size := P4.lt
  refine own_go (B := s₁.setTop (mkF m 0 #[.val (.ref so), .unset] [])) pre0 ?_
  show ∃ t o, Steps p.tables e below (s₁.setTop (mkF m 0 #[.val (.ref so), .unset] [])) t ∧ _
  refine own_go (fun _ => XS.aloadN X0.here hx rfl (hb hby d8_0) rfl rfl) ?_
  obtain ⟨a7, T7, h7, kS7, X7, e7, E7, hS, hk7, hZ, hown, st7⟩ := ldcS X0 hx hZ hown (hw _ (List.mem_of_getElem? (i := 39) rfl)) wS e0 hS (Nat.zero_le _) (g := (mkF m 1 #[.val (.ref so), .unset] [(.ref so)])) rfl (hb hby d8_1) (n := 16) (by decide) (by decide) (by decide) (by decide)
  refine own_go st7 ?_
  have K7 : Keep h0 h7 [] := Keep.ext (Keep.refl h0 []) E7
  have le_7 : h0.size ≤ h7.size := E7.1
  show ∃ t o, Steps p.tables e below (T7.setTop (mkF m 3 #[.val (.ref so), .unset] [(.ref a7), (.ref so)])) t ∧ _
  have F8 : Old Z n0 h7 := (OLD.ext E7)
  have zl9 : n0 ≤ h7.size := by omega
  obtain ⟨_, _, ⟨T10, L10, k10, n10⟩, -, X10, ⟨Lc10, hQ10, l10, y10, z10⟩, st10⟩ := Jvm.LawKit.callS X7 hx (y := (⟨"java/util/Objects", "requireNonNull", "(Ljava/lang/Object;Ljava/lang/String;)Ljava/lang/Object;"⟩ : MethodName)) hown (mvT hZ (hw _ (List.mem_of_getElem? (i := 42) rfl))) (mvT hZ (hw _ (List.mem_of_getElem? (i := 43) rfl))) (mvT hZ (hw _ (List.mem_of_getElem? (i := 44) rfl))) (mvT hZ (hw _ (List.mem_of_getElem? (i := 45) rfl))) (by decide) (backOf (W := 0) (rmRnn l Z a0 hw [] so a7 h7 n0 zl9 F8) hZ (hw _ (List.mem_of_getElem? (i := 45) rfl)) (hw _ (List.mem_of_getElem? (i := 44) rfl)) (by decide) (by decide)) (g := (mkF m 3 #[.val (.ref so), .unset] [(.ref a7), (.ref so)])) rfl (by rw [hml]; rfl) (argsL := [(.ref so), (.ref a7)]) (rest := []) (lenOf pd_hb4046d0a rfl) rfl (by show 2 * 0 + _ ≤ _; exact Nat.le_of_eq rfl) (hb hby d8_3) (fun _ _ => ⟨rfl, e7, (by decide : 2 + 0 ≤ _), (by decide : 20 + 0 ≤ _)⟩)
  dsimp only [Pt.U, Pt.locs, Pt.cells, Pt.slots] at X10 l10 y10 z10 st10 hQ10
  subst l10 y10 z10
  obtain ⟨rfl, Nq10, e10⟩ := hQ10
  have N10 := Fr.app N0 Nq10
  refine own_go st10 ?_
  refine own_go (fun _ => XS.pop X10.here hx rfl (hb hby d8_6) rfl rfl) ?_
  refine own_go (fun _ => XS.aloadN X10.here hx rfl (hb hby d8_7) rfl rfl) ?_
  show ∃ t o, Steps p.tables e below (T10.setTop (mkF m 8 #[.val (.ref so), .unset] [(.ref so)])) t ∧ _
  have F11 : Exa Z h7 so "java/lang/String" := (Exa.ext E7 P1)
  have F12 : Fld Z h7 so "java/lang/String" "value" "[B" (.ref tb) := (Fld.ext E7 P2)
  have F13 : Fld Z h7 so "java/lang/String" "coder" "B" (.int (0 : Int32)) := (Fld.ext E7 P3)
  have F14 : Arv Z h7 tb kb .byte (4 : Int32) [(.int (c0.toInt8.toInt32)), (.int (c1.toInt8.toInt32)), (.int (c2.toInt8.toInt32)), (.int (c3.toInt8.toInt32))] (.int (0 : Int32)) := (P4.ext E7)
  obtain ⟨cq15, kq15, q15a, q15b, q15c⟩ := isOf hZ e10 F11
  obtain ⟨_, _, ⟨T15, L15, k15, n15⟩, -, X15, ⟨Lc15, hQ15, l15, y15, z15⟩, st15⟩ := X10.virtualBack hx (y := (⟨"java/lang/String", "isEmpty", "()Z"⟩ : MethodName)) (z := (⟨"java/lang/String", "isEmpty", "()Z"⟩ : MethodName)) hown (mvT hZ (hw _ (List.mem_of_getElem? (i := 46) rfl))) (mvT hZ (hw _ (List.mem_of_getElem? (i := 47) rfl))) (notFace_of_selects (args := #[]) (mvT hZ (hw _ (List.mem_of_getElem? (i := 49) rfl)))) (mvT hZ (hw _ (List.mem_of_getElem? (i := 49) rfl))) (mvT hZ (hw _ (List.mem_of_getElem? (i := 48) rfl))) (by decide) (backOf (W := 0) (rmEmp4 l Z a0 hw [] so tb kb c0 c1 c2 c3 h7 n0 zl9 F11 F12 F13 F14 F8) hZ (hw _ (List.mem_of_getElem? (i := 50) rfl)) (hw _ (List.mem_of_getElem? (i := 7) rfl)) (by decide) (by decide)) q15a q15c (g := (mkF m 8 #[.val (.ref so), .unset] [(.ref so)])) rfl (by rw [hml]; rfl) (Steps.refl _) (argsL := []) (rest := []) (lenOf pd__28_29Z rfl) rfl (by show 2 * 0 + _ ≤ _; exact Nat.le_of_eq rfl) (hb hby d8_8) (fun _ _ => ⟨rfl, e10, (by decide : 2 + 0 ≤ _), (by decide : 20 + 0 ≤ _)⟩)
  dsimp only [Pt.U, Pt.locs, Pt.cells, Pt.slots] at X15 l15 y15 z15 st15 hQ15
  subst l15 y15 z15
  obtain ⟨rfl, Nq15, e15⟩ := hQ15
  have N15 := Fr.app N10 Nq15
  refine own_goT st15 ?_
  show ∃ t o, Steps p.tables e below (T15.setTop (mkF m 11 #[.val (.ref so), .unset] [(.int (0 : Int32))])) t ∧ _
  refine own_go (fun _ => XS.ifNo X15.here hx rfl (hb hby d8_11) rfl ((if0 _ _).trans (teq (by decide : (0 : Int32) = (0 : Int32))).2)) ?_
  refine own_go (fun _ => XS.aloadN X15.here hx rfl (hb hby d8_14) rfl rfl) ?_
  show ∃ t o, Steps p.tables e below (T15.setTop (mkF m 15 #[.val (.ref so), .unset] [(.ref so)])) t ∧ _
  obtain ⟨cq16, kq16, q16a, q16b, q16c⟩ := isOf hZ e15 F11
  obtain ⟨_, _, ⟨T16, L16, k16, n16⟩, -, X16, ⟨Lc16, hQ16, l16, y16, z16⟩, st16⟩ := X15.virtualBack hx (y := (⟨"java/lang/String", "length", "()I"⟩ : MethodName)) (z := (⟨"java/lang/String", "length", "()I"⟩ : MethodName)) hown (mvT hZ (hw _ (List.mem_of_getElem? (i := 51) rfl))) (mvT hZ (hw _ (List.mem_of_getElem? (i := 52) rfl))) (notFace_of_selects (args := #[]) (mvT hZ (hw _ (List.mem_of_getElem? (i := 54) rfl)))) (mvT hZ (hw _ (List.mem_of_getElem? (i := 54) rfl))) (mvT hZ (hw _ (List.mem_of_getElem? (i := 53) rfl))) (by decide) (backOf (W := 0) (rmLen4 l Z a0 hw [] so tb kb c0 c1 c2 c3 zc h7 n0 zl9 F11 F12 F13 F14 F8 P5 hzc) hZ (hw _ (List.mem_of_getElem? (i := 55) rfl)) (hw _ (List.mem_of_getElem? (i := 7) rfl)) (by decide) (by decide)) q16a q16c (g := (mkF m 15 #[.val (.ref so), .unset] [(.ref so)])) rfl (by rw [hml]; rfl) (Steps.refl _) (argsL := []) (rest := []) (lenOf pd__28_29I rfl) rfl (by show 2 * 0 + _ ≤ _; exact Nat.le_of_eq rfl) (hb hby d8_15) (fun _ _ => ⟨rfl, e15, (by decide : 2 + 0 ≤ _), (by decide : 20 + 0 ≤ _)⟩)
  dsimp only [Pt.U, Pt.locs, Pt.cells, Pt.slots] at X16 l16 y16 z16 st16 hQ16
  subst l16 y16 z16
  obtain ⟨rfl, Nq16, e16⟩ := hQ16
  have N16 := Fr.app N15 Nq16
  refine own_goT st16 ?_
  refine own_go (fun _ => XS.bipush X16.here hx rfl (hb hby d8_18)) ?_
  show ∃ t o, Steps p.tables e below (T16.setTop (mkF m 20 #[.val (.ref so), .unset] [(.int (100 : Int32)), (.int (4 : Int32))])) t ∧ _
  refine own_go (fun _ => XS.icmpYes X16.here hx rfl (pc0 := 20) (pc' := 40) rfl (hb hby d8_20) rfl (flt (by decide : ¬ ((100 : Int32) < (4 : Int32)))).2.2.2 (by decide) (by decide)) ?_
  refine own_go (fun _ => XS.iconst X16.here hx rfl (hb hby d8_40)) ?_
  refine own_go (fun _ => XS.istoreN X16.here hx rfl (hb hby d8_41) rfl (l' := #[.val (.ref so), .val (.int (0 : Int32))]) rfl) ?_
  show ∃ t o, Steps p.tables e below (T16.setTop (mkF m 42 #[.val (.ref so), .val (.int (0 : Int32))] [])) t ∧ _
  refine own_go (fun _ => XS.iloadN X16.here hx rfl (hb hby d8_42) rfl) ?_
  refine own_go (fun _ => XS.aloadN X16.here hx rfl (hb hby d8_43) rfl rfl) ?_
  show ∃ t o, Steps p.tables e below (T16.setTop (mkF m 44 #[.val (.ref so), .val (.int (0 : Int32))] [(.ref so), (.int (0 : Int32))])) t ∧ _
  obtain ⟨cq17, kq17, q17a, q17b, q17c⟩ := isOf hZ e16 F11
  obtain ⟨_, _, ⟨T17, L17, k17, n17⟩, -, X17, ⟨Lc17, hQ17, l17, y17, z17⟩, st17⟩ := X16.virtualBack hx (y := (⟨"java/lang/String", "length", "()I"⟩ : MethodName)) (z := (⟨"java/lang/String", "length", "()I"⟩ : MethodName)) hown (mvT hZ (hw _ (List.mem_of_getElem? (i := 51) rfl))) (mvT hZ (hw _ (List.mem_of_getElem? (i := 52) rfl))) (notFace_of_selects (args := #[]) (mvT hZ (hw _ (List.mem_of_getElem? (i := 54) rfl)))) (mvT hZ (hw _ (List.mem_of_getElem? (i := 54) rfl))) (mvT hZ (hw _ (List.mem_of_getElem? (i := 53) rfl))) (by decide) (backOf (W := 1) (rmLen4 l Z a0 hw [] so tb kb c0 c1 c2 c3 zc h7 n0 zl9 F11 F12 F13 F14 F8 P5 hzc) hZ (hw _ (List.mem_of_getElem? (i := 55) rfl)) (hw _ (List.mem_of_getElem? (i := 7) rfl)) (by decide) (by decide)) q17a q17c (g := (mkF m 44 #[.val (.ref so), .val (.int (0 : Int32))] [(.ref so), (.int (0 : Int32))])) rfl (by rw [hml]; rfl) (Steps.refl _) (argsL := []) (rest := [(.int (0 : Int32))]) (lenOf pd__28_29I rfl) rfl (by show 2 * 0 + _ ≤ _; exact Nat.le_of_eq rfl) (hb hby d8_44) (fun _ _ => ⟨rfl, e16, (by decide : 2 + 0 ≤ _), (by decide : 20 + 0 ≤ _)⟩)
  dsimp only [Pt.U, Pt.locs, Pt.cells, Pt.slots] at X17 l17 y17 z17 st17 hQ17
  subst l17 y17 z17
  obtain ⟨rfl, Nq17, e17⟩ := hQ17
  have N17 := Fr.app N16 Nq17
  refine own_goT st17 ?_
  show ∃ t o, Steps p.tables e below (T17.setTop (mkF m 47 #[.val (.ref so), .val (.int (0 : Int32))] [(.int (4 : Int32)), (.int (0 : Int32))])) t ∧ _
  refine own_go (fun _ => XS.icmpNo X17.here hx rfl (hb hby d8_47) rfl (tlt (by decide : (0 : Int32) < (4 : Int32))).2.1) ?_
  refine own_go (fun _ => XS.aloadN X17.here hx rfl (hb hby d8_50) rfl rfl) ?_
  refine own_go (fun _ => XS.iloadN X17.here hx rfl (hb hby d8_51) rfl) ?_
  show ∃ t o, Steps p.tables e below (T17.setTop (mkF m 52 #[.val (.ref so), .val (.int (0 : Int32))] [(.int (0 : Int32)), (.ref so)])) t ∧ _
  obtain ⟨cq18, kq18, q18a, q18b, q18c⟩ := isOf hZ e17 F11
  obtain ⟨_, _, ⟨T18, L18, k18, n18⟩, -, X18, ⟨Lc18, hQ18, l18, y18, z18⟩, st18⟩ := X17.virtualBack hx (y := (⟨"java/lang/String", "charAt", "(I)C"⟩ : MethodName)) (z := (⟨"java/lang/String", "charAt", "(I)C"⟩ : MethodName)) hown (mvT hZ (hw _ (List.mem_of_getElem? (i := 61) rfl))) (mvT hZ (hw _ (List.mem_of_getElem? (i := 62) rfl))) (notFace_of_selects (args := #[]) (mvT hZ (hw _ (List.mem_of_getElem? (i := 64) rfl)))) (mvT hZ (hw _ (List.mem_of_getElem? (i := 64) rfl))) (mvT hZ (hw _ (List.mem_of_getElem? (i := 63) rfl))) (by decide) (backOf (W := 0) (rmCh4_0 l Z a0 hw [] so tb kb c0 c1 c2 c3 zc gv h7 n0 zl9 F11 F12 F13 F14 F8 P5 P6 hzc hgv (own_okrg ok0 : own_rg c0)) hZ (hw _ (List.mem_of_getElem? (i := 65) rfl)) (hw _ (List.mem_of_getElem? (i := 7) rfl)) (by decide) (by decide)) q18a q18c (g := (mkF m 52 #[.val (.ref so), .val (.int (0 : Int32))] [(.int (0 : Int32)), (.ref so)])) rfl (by rw [hml]; rfl) (Steps.refl _) (argsL := [(.int (0 : Int32))]) (rest := []) (lenOf pd__28I_29C rfl) rfl (by show 2 * 0 + _ ≤ _; exact Nat.le_of_eq rfl) (hb hby d8_52) (fun _ _ => ⟨rfl, e17, (by decide : 2 + 0 ≤ _), (by decide : 20 + 0 ≤ _)⟩)
  dsimp only [Pt.U, Pt.locs, Pt.cells, Pt.slots] at X18 l18 y18 z18 st18 hQ18
  subst l18 y18 z18
  obtain ⟨rfl, Nq18, e18⟩ := hQ18
  have N18 := Fr.app N17 Nq18
  refine own_goT st18 ?_
  show ∃ t o, Steps p.tables e below (T18.setTop (mkF m 55 #[.val (.ref so), .val (.int (0 : Int32))] [(.int c0)])) t ∧ _
  obtain ⟨_, _, ⟨T19, L19, k19, n19⟩, -, X19, ⟨Lc19, hQ19, l19, y19, z19⟩, st19⟩ := Jvm.LawKit.callS X18 hx (y := (⟨"com/example/libtardy/libtardy/QueueName", "isAllowed", "(C)Z"⟩ : MethodName)) hown (mvT hZ (hw _ (List.mem_of_getElem? (i := 83) rfl))) (mvT hZ (hw _ (List.mem_of_getElem? (i := 84) rfl))) (mvT hZ (hw _ (List.mem_of_getElem? (i := 37) rfl))) (mvT hZ (hw _ (List.mem_of_getElem? (i := 85) rfl))) (by decide) (backOf (W := 0) (rmIs l Z a0 hw [] c0 h7 n0 zl9 F8 (ok0 : own_ok c0)) hZ (hw _ (List.mem_of_getElem? (i := 85) rfl)) (hw _ (List.mem_of_getElem? (i := 37) rfl)) (by decide) (by decide)) (g := (mkF m 55 #[.val (.ref so), .val (.int (0 : Int32))] [(.int c0)])) rfl (by rw [hml]; rfl) (argsL := [(.int c0)]) (rest := []) (lenOf pd__28C_29Z rfl) rfl (by show 2 * 0 + _ ≤ _; exact Nat.le_of_eq rfl) (hb hby d8_55) (fun _ _ => ⟨rfl, e18, (by decide : 2 + 0 ≤ _), (by decide : 20 + 0 ≤ _)⟩)
  dsimp only [Pt.U, Pt.locs, Pt.cells, Pt.slots] at X19 l19 y19 z19 st19 hQ19
  subst l19 y19 z19
  obtain ⟨rfl, Nq19, e19⟩ := hQ19
  have N19 := Fr.app N18 Nq19
  refine own_go st19 ?_
  show ∃ t o, Steps p.tables e below (T19.setTop (mkF m 58 #[.val (.ref so), .val (.int (0 : Int32))] [(.int (1 : Int32))])) t ∧ _
  refine own_go (fun _ => XS.ifYes X19.here hx rfl (pc0 := 58) (pc' := 96) rfl (hb hby d8_58) rfl ((if0 _ _).trans (feq (by decide : ¬ ((1 : Int32) = (0 : Int32)))).2) (by decide) (by decide)) ?_
  refine own_go (fun _ => XS.iinc X19.here hx rfl (hb hby d8_96) rfl (l' := #[.val (.ref so), .val (.int (1 : Int32))]) rfl) ?_
  refine own_go (fun _ => XS.goto X19.here hx rfl (pc0 := 99) (pc' := 42) rfl (hb hby d8_99) (by decide) (by decide)) ?_
  show ∃ t o, Steps p.tables e below (T19.setTop (mkF m 42 #[.val (.ref so), .val (.int (1 : Int32))] [])) t ∧ _
  refine own_go (fun _ => XS.iloadN X19.here hx rfl (hb hby d8_42) rfl) ?_
  refine own_go (fun _ => XS.aloadN X19.here hx rfl (hb hby d8_43) rfl rfl) ?_
  show ∃ t o, Steps p.tables e below (T19.setTop (mkF m 44 #[.val (.ref so), .val (.int (1 : Int32))] [(.ref so), (.int (1 : Int32))])) t ∧ _
  obtain ⟨cq20, kq20, q20a, q20b, q20c⟩ := isOf hZ e19 F11
  obtain ⟨_, _, ⟨T20, L20, k20, n20⟩, -, X20, ⟨Lc20, hQ20, l20, y20, z20⟩, st20⟩ := X19.virtualBack hx (y := (⟨"java/lang/String", "length", "()I"⟩ : MethodName)) (z := (⟨"java/lang/String", "length", "()I"⟩ : MethodName)) hown (mvT hZ (hw _ (List.mem_of_getElem? (i := 51) rfl))) (mvT hZ (hw _ (List.mem_of_getElem? (i := 52) rfl))) (notFace_of_selects (args := #[]) (mvT hZ (hw _ (List.mem_of_getElem? (i := 54) rfl)))) (mvT hZ (hw _ (List.mem_of_getElem? (i := 54) rfl))) (mvT hZ (hw _ (List.mem_of_getElem? (i := 53) rfl))) (by decide) (backOf (W := 1) (rmLen4 l Z a0 hw [] so tb kb c0 c1 c2 c3 zc h7 n0 zl9 F11 F12 F13 F14 F8 P5 hzc) hZ (hw _ (List.mem_of_getElem? (i := 55) rfl)) (hw _ (List.mem_of_getElem? (i := 7) rfl)) (by decide) (by decide)) q20a q20c (g := (mkF m 44 #[.val (.ref so), .val (.int (1 : Int32))] [(.ref so), (.int (1 : Int32))])) rfl (by rw [hml]; rfl) (Steps.refl _) (argsL := []) (rest := [(.int (1 : Int32))]) (lenOf pd__28_29I rfl) rfl (by show 2 * 0 + _ ≤ _; exact Nat.le_of_eq rfl) (hb hby d8_44) (fun _ _ => ⟨rfl, e19, (by decide : 2 + 0 ≤ _), (by decide : 20 + 0 ≤ _)⟩)
  dsimp only [Pt.U, Pt.locs, Pt.cells, Pt.slots] at X20 l20 y20 z20 st20 hQ20
  subst l20 y20 z20
  obtain ⟨rfl, Nq20, e20⟩ := hQ20
  have N20 := Fr.app N19 Nq20
  refine own_goT st20 ?_
  show ∃ t o, Steps p.tables e below (T20.setTop (mkF m 47 #[.val (.ref so), .val (.int (1 : Int32))] [(.int (4 : Int32)), (.int (1 : Int32))])) t ∧ _
  refine own_go (fun _ => XS.icmpNo X20.here hx rfl (hb hby d8_47) rfl (tlt (by decide : (1 : Int32) < (4 : Int32))).2.1) ?_
  refine own_go (fun _ => XS.aloadN X20.here hx rfl (hb hby d8_50) rfl rfl) ?_
  refine own_go (fun _ => XS.iloadN X20.here hx rfl (hb hby d8_51) rfl) ?_
  show ∃ t o, Steps p.tables e below (T20.setTop (mkF m 52 #[.val (.ref so), .val (.int (1 : Int32))] [(.int (1 : Int32)), (.ref so)])) t ∧ _
  obtain ⟨cq21, kq21, q21a, q21b, q21c⟩ := isOf hZ e20 F11
  obtain ⟨_, _, ⟨T21, L21, k21, n21⟩, -, X21, ⟨Lc21, hQ21, l21, y21, z21⟩, st21⟩ := X20.virtualBack hx (y := (⟨"java/lang/String", "charAt", "(I)C"⟩ : MethodName)) (z := (⟨"java/lang/String", "charAt", "(I)C"⟩ : MethodName)) hown (mvT hZ (hw _ (List.mem_of_getElem? (i := 61) rfl))) (mvT hZ (hw _ (List.mem_of_getElem? (i := 62) rfl))) (notFace_of_selects (args := #[]) (mvT hZ (hw _ (List.mem_of_getElem? (i := 64) rfl)))) (mvT hZ (hw _ (List.mem_of_getElem? (i := 64) rfl))) (mvT hZ (hw _ (List.mem_of_getElem? (i := 63) rfl))) (by decide) (backOf (W := 0) (rmCh4_1 l Z a0 hw [] so tb kb c0 c1 c2 c3 zc gv h7 n0 zl9 F11 F12 F13 F14 F8 P5 P6 hzc hgv (own_okrg ok1 : own_rg c1)) hZ (hw _ (List.mem_of_getElem? (i := 65) rfl)) (hw _ (List.mem_of_getElem? (i := 7) rfl)) (by decide) (by decide)) q21a q21c (g := (mkF m 52 #[.val (.ref so), .val (.int (1 : Int32))] [(.int (1 : Int32)), (.ref so)])) rfl (by rw [hml]; rfl) (Steps.refl _) (argsL := [(.int (1 : Int32))]) (rest := []) (lenOf pd__28I_29C rfl) rfl (by show 2 * 0 + _ ≤ _; exact Nat.le_of_eq rfl) (hb hby d8_52) (fun _ _ => ⟨rfl, e20, (by decide : 2 + 0 ≤ _), (by decide : 20 + 0 ≤ _)⟩)
  dsimp only [Pt.U, Pt.locs, Pt.cells, Pt.slots] at X21 l21 y21 z21 st21 hQ21
  subst l21 y21 z21
  obtain ⟨rfl, Nq21, e21⟩ := hQ21
  have N21 := Fr.app N20 Nq21
  refine own_goT st21 ?_
  show ∃ t o, Steps p.tables e below (T21.setTop (mkF m 55 #[.val (.ref so), .val (.int (1 : Int32))] [(.int c1)])) t ∧ _
  obtain ⟨_, _, ⟨T22, L22, k22, n22⟩, -, X22, ⟨Lc22, hQ22, l22, y22, z22⟩, st22⟩ := Jvm.LawKit.callS X21 hx (y := (⟨"com/example/libtardy/libtardy/QueueName", "isAllowed", "(C)Z"⟩ : MethodName)) hown (mvT hZ (hw _ (List.mem_of_getElem? (i := 83) rfl))) (mvT hZ (hw _ (List.mem_of_getElem? (i := 84) rfl))) (mvT hZ (hw _ (List.mem_of_getElem? (i := 37) rfl))) (mvT hZ (hw _ (List.mem_of_getElem? (i := 85) rfl))) (by decide) (backOf (W := 0) (rmIs l Z a0 hw [] c1 h7 n0 zl9 F8 (ok1 : own_ok c1)) hZ (hw _ (List.mem_of_getElem? (i := 85) rfl)) (hw _ (List.mem_of_getElem? (i := 37) rfl)) (by decide) (by decide)) (g := (mkF m 55 #[.val (.ref so), .val (.int (1 : Int32))] [(.int c1)])) rfl (by rw [hml]; rfl) (argsL := [(.int c1)]) (rest := []) (lenOf pd__28C_29Z rfl) rfl (by show 2 * 0 + _ ≤ _; exact Nat.le_of_eq rfl) (hb hby d8_55) (fun _ _ => ⟨rfl, e21, (by decide : 2 + 0 ≤ _), (by decide : 20 + 0 ≤ _)⟩)
  dsimp only [Pt.U, Pt.locs, Pt.cells, Pt.slots] at X22 l22 y22 z22 st22 hQ22
  subst l22 y22 z22
  obtain ⟨rfl, Nq22, e22⟩ := hQ22
  have N22 := Fr.app N21 Nq22
  refine own_go st22 ?_
  show ∃ t o, Steps p.tables e below (T22.setTop (mkF m 58 #[.val (.ref so), .val (.int (1 : Int32))] [(.int (1 : Int32))])) t ∧ _
  refine own_go (fun _ => XS.ifYes X22.here hx rfl (pc0 := 58) (pc' := 96) rfl (hb hby d8_58) rfl ((if0 _ _).trans (feq (by decide : ¬ ((1 : Int32) = (0 : Int32)))).2) (by decide) (by decide)) ?_
  refine own_go (fun _ => XS.iinc X22.here hx rfl (hb hby d8_96) rfl (l' := #[.val (.ref so), .val (.int (2 : Int32))]) rfl) ?_
  refine own_go (fun _ => XS.goto X22.here hx rfl (pc0 := 99) (pc' := 42) rfl (hb hby d8_99) (by decide) (by decide)) ?_
  show ∃ t o, Steps p.tables e below (T22.setTop (mkF m 42 #[.val (.ref so), .val (.int (2 : Int32))] [])) t ∧ _
  refine own_go (fun _ => XS.iloadN X22.here hx rfl (hb hby d8_42) rfl) ?_
  refine own_go (fun _ => XS.aloadN X22.here hx rfl (hb hby d8_43) rfl rfl) ?_
  show ∃ t o, Steps p.tables e below (T22.setTop (mkF m 44 #[.val (.ref so), .val (.int (2 : Int32))] [(.ref so), (.int (2 : Int32))])) t ∧ _
  obtain ⟨cq23, kq23, q23a, q23b, q23c⟩ := isOf hZ e22 F11
  obtain ⟨_, _, ⟨T23, L23, k23, n23⟩, -, X23, ⟨Lc23, hQ23, l23, y23, z23⟩, st23⟩ := X22.virtualBack hx (y := (⟨"java/lang/String", "length", "()I"⟩ : MethodName)) (z := (⟨"java/lang/String", "length", "()I"⟩ : MethodName)) hown (mvT hZ (hw _ (List.mem_of_getElem? (i := 51) rfl))) (mvT hZ (hw _ (List.mem_of_getElem? (i := 52) rfl))) (notFace_of_selects (args := #[]) (mvT hZ (hw _ (List.mem_of_getElem? (i := 54) rfl)))) (mvT hZ (hw _ (List.mem_of_getElem? (i := 54) rfl))) (mvT hZ (hw _ (List.mem_of_getElem? (i := 53) rfl))) (by decide) (backOf (W := 1) (rmLen4 l Z a0 hw [] so tb kb c0 c1 c2 c3 zc h7 n0 zl9 F11 F12 F13 F14 F8 P5 hzc) hZ (hw _ (List.mem_of_getElem? (i := 55) rfl)) (hw _ (List.mem_of_getElem? (i := 7) rfl)) (by decide) (by decide)) q23a q23c (g := (mkF m 44 #[.val (.ref so), .val (.int (2 : Int32))] [(.ref so), (.int (2 : Int32))])) rfl (by rw [hml]; rfl) (Steps.refl _) (argsL := []) (rest := [(.int (2 : Int32))]) (lenOf pd__28_29I rfl) rfl (by show 2 * 0 + _ ≤ _; exact Nat.le_of_eq rfl) (hb hby d8_44) (fun _ _ => ⟨rfl, e22, (by decide : 2 + 0 ≤ _), (by decide : 20 + 0 ≤ _)⟩)
  dsimp only [Pt.U, Pt.locs, Pt.cells, Pt.slots] at X23 l23 y23 z23 st23 hQ23
  subst l23 y23 z23
  obtain ⟨rfl, Nq23, e23⟩ := hQ23
  have N23 := Fr.app N22 Nq23
  refine own_goT st23 ?_
  show ∃ t o, Steps p.tables e below (T23.setTop (mkF m 47 #[.val (.ref so), .val (.int (2 : Int32))] [(.int (4 : Int32)), (.int (2 : Int32))])) t ∧ _
  refine own_go (fun _ => XS.icmpNo X23.here hx rfl (hb hby d8_47) rfl (tlt (by decide : (2 : Int32) < (4 : Int32))).2.1) ?_
  refine own_go (fun _ => XS.aloadN X23.here hx rfl (hb hby d8_50) rfl rfl) ?_
  refine own_go (fun _ => XS.iloadN X23.here hx rfl (hb hby d8_51) rfl) ?_
  show ∃ t o, Steps p.tables e below (T23.setTop (mkF m 52 #[.val (.ref so), .val (.int (2 : Int32))] [(.int (2 : Int32)), (.ref so)])) t ∧ _
  obtain ⟨cq24, kq24, q24a, q24b, q24c⟩ := isOf hZ e23 F11
  obtain ⟨_, _, ⟨T24, L24, k24, n24⟩, -, X24, ⟨Lc24, hQ24, l24, y24, z24⟩, st24⟩ := X23.virtualBack hx (y := (⟨"java/lang/String", "charAt", "(I)C"⟩ : MethodName)) (z := (⟨"java/lang/String", "charAt", "(I)C"⟩ : MethodName)) hown (mvT hZ (hw _ (List.mem_of_getElem? (i := 61) rfl))) (mvT hZ (hw _ (List.mem_of_getElem? (i := 62) rfl))) (notFace_of_selects (args := #[]) (mvT hZ (hw _ (List.mem_of_getElem? (i := 64) rfl)))) (mvT hZ (hw _ (List.mem_of_getElem? (i := 64) rfl))) (mvT hZ (hw _ (List.mem_of_getElem? (i := 63) rfl))) (by decide) (backOf (W := 0) (rmCh4_2 l Z a0 hw [] so tb kb c0 c1 c2 c3 zc gv h7 n0 zl9 F11 F12 F13 F14 F8 P5 P6 hzc hgv (own_okrg ok2 : own_rg c2)) hZ (hw _ (List.mem_of_getElem? (i := 65) rfl)) (hw _ (List.mem_of_getElem? (i := 7) rfl)) (by decide) (by decide)) q24a q24c (g := (mkF m 52 #[.val (.ref so), .val (.int (2 : Int32))] [(.int (2 : Int32)), (.ref so)])) rfl (by rw [hml]; rfl) (Steps.refl _) (argsL := [(.int (2 : Int32))]) (rest := []) (lenOf pd__28I_29C rfl) rfl (by show 2 * 0 + _ ≤ _; exact Nat.le_of_eq rfl) (hb hby d8_52) (fun _ _ => ⟨rfl, e23, (by decide : 2 + 0 ≤ _), (by decide : 20 + 0 ≤ _)⟩)
  dsimp only [Pt.U, Pt.locs, Pt.cells, Pt.slots] at X24 l24 y24 z24 st24 hQ24
  subst l24 y24 z24
  obtain ⟨rfl, Nq24, e24⟩ := hQ24
  have N24 := Fr.app N23 Nq24
  refine own_goT st24 ?_
  show ∃ t o, Steps p.tables e below (T24.setTop (mkF m 55 #[.val (.ref so), .val (.int (2 : Int32))] [(.int c2)])) t ∧ _
  obtain ⟨_, _, ⟨T25, L25, k25, n25⟩, -, X25, ⟨Lc25, hQ25, l25, y25, z25⟩, st25⟩ := Jvm.LawKit.callS X24 hx (y := (⟨"com/example/libtardy/libtardy/QueueName", "isAllowed", "(C)Z"⟩ : MethodName)) hown (mvT hZ (hw _ (List.mem_of_getElem? (i := 83) rfl))) (mvT hZ (hw _ (List.mem_of_getElem? (i := 84) rfl))) (mvT hZ (hw _ (List.mem_of_getElem? (i := 37) rfl))) (mvT hZ (hw _ (List.mem_of_getElem? (i := 85) rfl))) (by decide) (backOf (W := 0) (rmIs l Z a0 hw [] c2 h7 n0 zl9 F8 (ok2 : own_ok c2)) hZ (hw _ (List.mem_of_getElem? (i := 85) rfl)) (hw _ (List.mem_of_getElem? (i := 37) rfl)) (by decide) (by decide)) (g := (mkF m 55 #[.val (.ref so), .val (.int (2 : Int32))] [(.int c2)])) rfl (by rw [hml]; rfl) (argsL := [(.int c2)]) (rest := []) (lenOf pd__28C_29Z rfl) rfl (by show 2 * 0 + _ ≤ _; exact Nat.le_of_eq rfl) (hb hby d8_55) (fun _ _ => ⟨rfl, e24, (by decide : 2 + 0 ≤ _), (by decide : 20 + 0 ≤ _)⟩)
  dsimp only [Pt.U, Pt.locs, Pt.cells, Pt.slots] at X25 l25 y25 z25 st25 hQ25
  subst l25 y25 z25
  obtain ⟨rfl, Nq25, e25⟩ := hQ25
  have N25 := Fr.app N24 Nq25
  refine own_go st25 ?_
  show ∃ t o, Steps p.tables e below (T25.setTop (mkF m 58 #[.val (.ref so), .val (.int (2 : Int32))] [(.int (1 : Int32))])) t ∧ _
  refine own_go (fun _ => XS.ifYes X25.here hx rfl (pc0 := 58) (pc' := 96) rfl (hb hby d8_58) rfl ((if0 _ _).trans (feq (by decide : ¬ ((1 : Int32) = (0 : Int32)))).2) (by decide) (by decide)) ?_
  refine own_go (fun _ => XS.iinc X25.here hx rfl (hb hby d8_96) rfl (l' := #[.val (.ref so), .val (.int (3 : Int32))]) rfl) ?_
  refine own_go (fun _ => XS.goto X25.here hx rfl (pc0 := 99) (pc' := 42) rfl (hb hby d8_99) (by decide) (by decide)) ?_
  show ∃ t o, Steps p.tables e below (T25.setTop (mkF m 42 #[.val (.ref so), .val (.int (3 : Int32))] [])) t ∧ _
  refine own_go (fun _ => XS.iloadN X25.here hx rfl (hb hby d8_42) rfl) ?_
  refine own_go (fun _ => XS.aloadN X25.here hx rfl (hb hby d8_43) rfl rfl) ?_
  show ∃ t o, Steps p.tables e below (T25.setTop (mkF m 44 #[.val (.ref so), .val (.int (3 : Int32))] [(.ref so), (.int (3 : Int32))])) t ∧ _
  obtain ⟨cq26, kq26, q26a, q26b, q26c⟩ := isOf hZ e25 F11
  obtain ⟨_, _, ⟨T26, L26, k26, n26⟩, -, X26, ⟨Lc26, hQ26, l26, y26, z26⟩, st26⟩ := X25.virtualBack hx (y := (⟨"java/lang/String", "length", "()I"⟩ : MethodName)) (z := (⟨"java/lang/String", "length", "()I"⟩ : MethodName)) hown (mvT hZ (hw _ (List.mem_of_getElem? (i := 51) rfl))) (mvT hZ (hw _ (List.mem_of_getElem? (i := 52) rfl))) (notFace_of_selects (args := #[]) (mvT hZ (hw _ (List.mem_of_getElem? (i := 54) rfl)))) (mvT hZ (hw _ (List.mem_of_getElem? (i := 54) rfl))) (mvT hZ (hw _ (List.mem_of_getElem? (i := 53) rfl))) (by decide) (backOf (W := 1) (rmLen4 l Z a0 hw [] so tb kb c0 c1 c2 c3 zc h7 n0 zl9 F11 F12 F13 F14 F8 P5 hzc) hZ (hw _ (List.mem_of_getElem? (i := 55) rfl)) (hw _ (List.mem_of_getElem? (i := 7) rfl)) (by decide) (by decide)) q26a q26c (g := (mkF m 44 #[.val (.ref so), .val (.int (3 : Int32))] [(.ref so), (.int (3 : Int32))])) rfl (by rw [hml]; rfl) (Steps.refl _) (argsL := []) (rest := [(.int (3 : Int32))]) (lenOf pd__28_29I rfl) rfl (by show 2 * 0 + _ ≤ _; exact Nat.le_of_eq rfl) (hb hby d8_44) (fun _ _ => ⟨rfl, e25, (by decide : 2 + 0 ≤ _), (by decide : 20 + 0 ≤ _)⟩)
  dsimp only [Pt.U, Pt.locs, Pt.cells, Pt.slots] at X26 l26 y26 z26 st26 hQ26
  subst l26 y26 z26
  obtain ⟨rfl, Nq26, e26⟩ := hQ26
  have N26 := Fr.app N25 Nq26
  refine own_goT st26 ?_
  show ∃ t o, Steps p.tables e below (T26.setTop (mkF m 47 #[.val (.ref so), .val (.int (3 : Int32))] [(.int (4 : Int32)), (.int (3 : Int32))])) t ∧ _
  refine own_go (fun _ => XS.icmpNo X26.here hx rfl (hb hby d8_47) rfl (tlt (by decide : (3 : Int32) < (4 : Int32))).2.1) ?_
  refine own_go (fun _ => XS.aloadN X26.here hx rfl (hb hby d8_50) rfl rfl) ?_
  refine own_go (fun _ => XS.iloadN X26.here hx rfl (hb hby d8_51) rfl) ?_
  show ∃ t o, Steps p.tables e below (T26.setTop (mkF m 52 #[.val (.ref so), .val (.int (3 : Int32))] [(.int (3 : Int32)), (.ref so)])) t ∧ _
  obtain ⟨cq27, kq27, q27a, q27b, q27c⟩ := isOf hZ e26 F11
  obtain ⟨_, _, ⟨T27, L27, k27, n27⟩, -, X27, ⟨Lc27, hQ27, l27, y27, z27⟩, st27⟩ := X26.virtualBack hx (y := (⟨"java/lang/String", "charAt", "(I)C"⟩ : MethodName)) (z := (⟨"java/lang/String", "charAt", "(I)C"⟩ : MethodName)) hown (mvT hZ (hw _ (List.mem_of_getElem? (i := 61) rfl))) (mvT hZ (hw _ (List.mem_of_getElem? (i := 62) rfl))) (notFace_of_selects (args := #[]) (mvT hZ (hw _ (List.mem_of_getElem? (i := 64) rfl)))) (mvT hZ (hw _ (List.mem_of_getElem? (i := 64) rfl))) (mvT hZ (hw _ (List.mem_of_getElem? (i := 63) rfl))) (by decide) (backOf (W := 0) (rmCh4_3 l Z a0 hw [] so tb kb c0 c1 c2 c3 zc gv h7 n0 zl9 F11 F12 F13 F14 F8 P5 P6 hzc hgv (own_okrg ok3 : own_rg c3)) hZ (hw _ (List.mem_of_getElem? (i := 65) rfl)) (hw _ (List.mem_of_getElem? (i := 7) rfl)) (by decide) (by decide)) q27a q27c (g := (mkF m 52 #[.val (.ref so), .val (.int (3 : Int32))] [(.int (3 : Int32)), (.ref so)])) rfl (by rw [hml]; rfl) (Steps.refl _) (argsL := [(.int (3 : Int32))]) (rest := []) (lenOf pd__28I_29C rfl) rfl (by show 2 * 0 + _ ≤ _; exact Nat.le_of_eq rfl) (hb hby d8_52) (fun _ _ => ⟨rfl, e26, (by decide : 2 + 0 ≤ _), (by decide : 20 + 0 ≤ _)⟩)
  dsimp only [Pt.U, Pt.locs, Pt.cells, Pt.slots] at X27 l27 y27 z27 st27 hQ27
  subst l27 y27 z27
  obtain ⟨rfl, Nq27, e27⟩ := hQ27
  have N27 := Fr.app N26 Nq27
  refine own_goT st27 ?_
  show ∃ t o, Steps p.tables e below (T27.setTop (mkF m 55 #[.val (.ref so), .val (.int (3 : Int32))] [(.int c3)])) t ∧ _
  obtain ⟨_, _, ⟨T28, L28, k28, n28⟩, -, X28, ⟨Lc28, hQ28, l28, y28, z28⟩, st28⟩ := Jvm.LawKit.callS X27 hx (y := (⟨"com/example/libtardy/libtardy/QueueName", "isAllowed", "(C)Z"⟩ : MethodName)) hown (mvT hZ (hw _ (List.mem_of_getElem? (i := 83) rfl))) (mvT hZ (hw _ (List.mem_of_getElem? (i := 84) rfl))) (mvT hZ (hw _ (List.mem_of_getElem? (i := 37) rfl))) (mvT hZ (hw _ (List.mem_of_getElem? (i := 85) rfl))) (by decide) (backOf (W := 0) (rmIs l Z a0 hw [] c3 h7 n0 zl9 F8 (ok3 : own_ok c3)) hZ (hw _ (List.mem_of_getElem? (i := 85) rfl)) (hw _ (List.mem_of_getElem? (i := 37) rfl)) (by decide) (by decide)) (g := (mkF m 55 #[.val (.ref so), .val (.int (3 : Int32))] [(.int c3)])) rfl (by rw [hml]; rfl) (argsL := [(.int c3)]) (rest := []) (lenOf pd__28C_29Z rfl) rfl (by show 2 * 0 + _ ≤ _; exact Nat.le_of_eq rfl) (hb hby d8_55) (fun _ _ => ⟨rfl, e27, (by decide : 2 + 0 ≤ _), (by decide : 20 + 0 ≤ _)⟩)
  dsimp only [Pt.U, Pt.locs, Pt.cells, Pt.slots] at X28 l28 y28 z28 st28 hQ28
  subst l28 y28 z28
  obtain ⟨rfl, Nq28, e28⟩ := hQ28
  have N28 := Fr.app N27 Nq28
  refine own_go st28 ?_
  show ∃ t o, Steps p.tables e below (T28.setTop (mkF m 58 #[.val (.ref so), .val (.int (3 : Int32))] [(.int (1 : Int32))])) t ∧ _
  refine own_go (fun _ => XS.ifYes X28.here hx rfl (pc0 := 58) (pc' := 96) rfl (hb hby d8_58) rfl ((if0 _ _).trans (feq (by decide : ¬ ((1 : Int32) = (0 : Int32)))).2) (by decide) (by decide)) ?_
  refine own_go (fun _ => XS.iinc X28.here hx rfl (hb hby d8_96) rfl (l' := #[.val (.ref so), .val (.int (4 : Int32))]) rfl) ?_
  refine own_go (fun _ => XS.goto X28.here hx rfl (pc0 := 99) (pc' := 42) rfl (hb hby d8_99) (by decide) (by decide)) ?_
  show ∃ t o, Steps p.tables e below (T28.setTop (mkF m 42 #[.val (.ref so), .val (.int (4 : Int32))] [])) t ∧ _
  refine own_go (fun _ => XS.iloadN X28.here hx rfl (hb hby d8_42) rfl) ?_
  refine own_go (fun _ => XS.aloadN X28.here hx rfl (hb hby d8_43) rfl rfl) ?_
  show ∃ t o, Steps p.tables e below (T28.setTop (mkF m 44 #[.val (.ref so), .val (.int (4 : Int32))] [(.ref so), (.int (4 : Int32))])) t ∧ _
  obtain ⟨cq29, kq29, q29a, q29b, q29c⟩ := isOf hZ e28 F11
  obtain ⟨_, _, ⟨T29, L29, k29, n29⟩, -, X29, ⟨Lc29, hQ29, l29, y29, z29⟩, st29⟩ := X28.virtualBack hx (y := (⟨"java/lang/String", "length", "()I"⟩ : MethodName)) (z := (⟨"java/lang/String", "length", "()I"⟩ : MethodName)) hown (mvT hZ (hw _ (List.mem_of_getElem? (i := 51) rfl))) (mvT hZ (hw _ (List.mem_of_getElem? (i := 52) rfl))) (notFace_of_selects (args := #[]) (mvT hZ (hw _ (List.mem_of_getElem? (i := 54) rfl)))) (mvT hZ (hw _ (List.mem_of_getElem? (i := 54) rfl))) (mvT hZ (hw _ (List.mem_of_getElem? (i := 53) rfl))) (by decide) (backOf (W := 1) (rmLen4 l Z a0 hw [] so tb kb c0 c1 c2 c3 zc h7 n0 zl9 F11 F12 F13 F14 F8 P5 hzc) hZ (hw _ (List.mem_of_getElem? (i := 55) rfl)) (hw _ (List.mem_of_getElem? (i := 7) rfl)) (by decide) (by decide)) q29a q29c (g := (mkF m 44 #[.val (.ref so), .val (.int (4 : Int32))] [(.ref so), (.int (4 : Int32))])) rfl (by rw [hml]; rfl) (Steps.refl _) (argsL := []) (rest := [(.int (4 : Int32))]) (lenOf pd__28_29I rfl) rfl (by show 2 * 0 + _ ≤ _; exact Nat.le_of_eq rfl) (hb hby d8_44) (fun _ _ => ⟨rfl, e28, (by decide : 2 + 0 ≤ _), (by decide : 20 + 0 ≤ _)⟩)
  dsimp only [Pt.U, Pt.locs, Pt.cells, Pt.slots] at X29 l29 y29 z29 st29 hQ29
  subst l29 y29 z29
  obtain ⟨rfl, Nq29, e29⟩ := hQ29
  have N29 := Fr.app N28 Nq29
  refine own_goT st29 ?_
  show ∃ t o, Steps p.tables e below (T29.setTop (mkF m 47 #[.val (.ref so), .val (.int (4 : Int32))] [(.int (4 : Int32)), (.int (4 : Int32))])) t ∧ _
  refine own_go (fun _ => XS.icmpYes X29.here hx rfl (pc0 := 47) (pc' := 102) rfl (hb hby d8_47) rfl (flt (by decide : ¬ ((4 : Int32) < (4 : Int32)))).2.1 (by decide) (by decide)) ?_
  show ∃ t o, Steps p.tables e below (T29.setTop (mkF m 102 #[.val (.ref so), .val (.int (4 : Int32))] [])) t ∧ _
  obtain ⟨T30, h30, X30, e30, E30, A30, D30, -, st30⟩ := newO X29 hx hZ hown (hw _ (List.mem_of_getElem? (i := 86) rfl)) (hw _ (List.mem_of_getElem? (i := 87) rfl)) (hw _ (List.mem_of_getElem? (i := 37) rfl)) e29 (g := (mkF m 102 #[.val (.ref so), .val (.int (4 : Int32))] [])) rfl (hb hby d8_102) (by decide) (by decide)
  obtain ⟨b30, g30⟩ : ∃ z, z = h7.size := ⟨_, rfl⟩
  rw [← g30] at A30 D30 st30
  refine own_go st30 ?_
  have le_30 : h7.size ≤ h30.size := E30.1
  have lt_b30 : b30 < h30.size := A30.lt
  have F_name_b30 : Fld Z h30 b30 "com/example/libtardy/libtardy/QueueName" "name" "Ljava/lang/String;" .null := D30 (Or.inr (hw _ (List.mem_of_getElem? (i := 93) rfl))) (ty := (.object "java/lang/String")) (by decide)
  have K30 : Keep h0 h30 [] := Keep.ext K7 E30
  refine own_go (fun _ => XS.dup X30.here hx rfl (hb hby d8_105) rfl rfl) ?_
  refine own_go (fun _ => XS.aloadN X30.here hx rfl (hb hby d8_106) rfl rfl) ?_
  show ∃ t o, Steps p.tables e below (T30.setTop (mkF m 107 #[.val (.ref so), .val (.int (4 : Int32))] [(.ref so), (.ref b30), (.ref b30)])) t ∧ _
  have F31 : Old Z n0 h30 := (F8.ext E30)
  have ge32 : n0 ≤ b30 := by omega
  have zl33 : n0 ≤ h30.size := by omega
  obtain ⟨_, _, ⟨T34, L34, k34, n34⟩, -, X34, ⟨Lc34, hQ34, l34, y34, z34⟩, st34⟩ := X30.specialBack hx (y := (⟨"com/example/libtardy/libtardy/QueueName", "<init>", "(Ljava/lang/String;)V"⟩ : MethodName)) rfl hown (mvT hZ (hw _ (List.mem_of_getElem? (i := 88) rfl))) (mvT hZ (hw _ (List.mem_of_getElem? (i := 89) rfl))) (mvT hZ (hw _ (List.mem_of_getElem? (i := 90) rfl))) (by decide) (backOf (W := 1) (rmInit l Z a0 hw [] b30 so h30 n0 zl33 A30 F_name_b30 F31 ge32) hZ (hw _ (List.mem_of_getElem? (i := 90) rfl)) (hw _ (List.mem_of_getElem? (i := 37) rfl)) (by decide) (by decide)) (g := (mkF m 107 #[.val (.ref so), .val (.int (4 : Int32))] [(.ref so), (.ref b30), (.ref b30)])) rfl (by rw [hml]; rfl) (Steps.refl _) (a := b30) (argsL := [(.ref so)]) (rest := [(.ref b30)]) (lenOf pd__28Ljava_2flang_2fString_3b_29V rfl) rfl (by show 2 * 0 + _ ≤ _; exact Nat.le_of_eq rfl) (hb hby d8_107) (fun _ _ => ⟨rfl, e30, (by decide : 3 + 0 ≤ _), (by decide : 21 + 0 ≤ _)⟩)
  dsimp only [Pt.U, Pt.locs, Pt.cells, Pt.slots] at X34 l34 y34 z34 st34 hQ34
  subst l34 y34 z34
  obtain ⟨rfl, Nq34, Kp34, G34_0, G34_1⟩ := hQ34
  have N34 := Fr.app N29 Nq34
  refine own_goT st34 ?_
  have le_34 : h30.size ≤ T34.heap.size := Kp34.1
  have sz35 : h0.size ≤ b30 := by omega
  have K34 : Keep h0 T34.heap [] := Keep.trans K30 Kp34 (allS (Or.inr sz35) all0)
  show ∃ t o, Steps p.tables e below (T34.setTop (mkF m 110 #[.val (.ref so), .val (.int (4 : Int32))] [(.ref b30)])) t ∧ _
  obtain ⟨fs, hr, hrun, hended, hW⟩ := Jvm.Stand.leaveW X34 hS (by omega) (v := some (.ref b30)) (fun h => by rw [Bd.returns] at h; cases h)
  refine ⟨_, _, ?_, hrun, hended, _, _, rfl, ?_, ⟨hW.1, hW.2.1, hW.2.2.1, hW.2.2.2.mono (by decide) (by decide)⟩⟩
  · jvm_step X34.here [X34.here.top, hx, (hb hby d8_110), X34.method', Bd.returns, Value.isRef, FieldType.isReference]
    first | (intro acts; rw [hr _ acts rfl rfl rfl]) | rw [hr _ _ rfl rfl rfl]
    exact Steps.refl _
  · show Q_rmOf4 Z _ _ _ _ _ _ _ _ _ h0 n0 _ T34.heap _
    exact ⟨b30, rfl, N34, K34, G34_0, G34_1⟩
theorem own_and3 (k : Int32) : k &&& 3 = 0 ∨ k &&& 3 = 1 ∨ k &&& 3 = 2 ∨ k &&& 3 = 3 := by
  have h := c_mask k 3 2 (by decide) (by decide)
  have h1 : ((2 ^ 2 : Nat) : Int) = 4 := rfl
  rw [h1] at h
  have h2 : (k &&& 3).toInt = 0 ∨ (k &&& 3).toInt = 1 ∨ (k &&& 3).toInt = 2 ∨ (k &&& 3).toInt = 3 := by omega
  rcases h2 with h2 | h2 | h2 | h2
  · exact Or.inl (Int32.toInt_inj.mp h2)
  · exact Or.inr (Or.inl (Int32.toInt_inj.mp h2))
  · exact Or.inr (Or.inr (Or.inl (Int32.toInt_inj.mp h2)))
  · exact Or.inr (Or.inr (Or.inr (Int32.toInt_inj.mp h2)))
theorem ef_rm0 (m : MethodId) (x0 : Int32) (x1 : Int32) (x2 : Int32) (x3 : Int32) (x4 : Int32) : entryFrame m #[(.int x0), (.int x1), (.int x2), (.int x3), (.int x4)] maxLocals = mkF m 0 #[.val (.int x0), .val (.int x1), .val (.int x2), .val (.int x3), .val (.int x4), .unset, .unset, .unset, .unset, .unset, .unset, .unset, .unset] [] := by first | (simp [entryFrame, mkF, argsToLocals, Value.category, maxLocals]; done) | rfl
theorem pd__28_5bC_29V : parseMethodDescriptor "([C)V" = some ⟨[(.array .char)], none⟩ := by decide +kernel
theorem pd_h60344592 : parseMethodDescriptor "(Ljava/lang/String;)Lcom/example/libtardy/libtardy/QueueName;" = some ⟨[(.object "java/lang/String")], some (.object "com/example/libtardy/libtardy/QueueName")⟩ := by decide +kernel
theorem pd__28_29Ljava_2flang_2fString_3b : parseMethodDescriptor "()Ljava/lang/String;" = some ⟨[], some (.object "java/lang/String")⟩ := by decide +kernel
theorem pd__28Ljava_2flang_2fObject_3b_29Z : parseMethodDescriptor "(Ljava/lang/Object;)Z" = some ⟨[(.object "java/lang/Object")], some .boolean⟩ := by decide +kernel
def Q_rm0 (Z : State) (i0 : Int32) (i1 : Int32) (i2 : Int32) (i3 : Int32) (i4 : Int32) (zc : Int32) (gv : Value) (h0 : Heap) (n0 : Nat) (v : Option Value) (h : Heap) (L : List Loc) : Prop := v = some (.int (1 : Int32)) ∧ Fr n0 L ∧ Keep h0 h []
set_option maxRecDepth 65536 in
set_option maxHeartbeats 40000000 in
theorem rm0 (l : Launch) (Z : State) (a0 : Array Value) (hw : ∀ d ∈ tables_1, d.before a0 Z = true) (ws : List Jvm.Cond) (i0 : Int32) (i1 : Int32) (i2 : Int32) (i3 : Int32) (i4 : Int32) (zc : Int32) (gv : Value) (h0 : Heap) (n0 : Nat) (Z0 : n0 ≤ h0.size) (OLD : Old Z n0 h0) (P1 : Sta Z Z.heap "java/lang/String" "COMPACT_STRINGS" "Z" (.int zc)) (P2 : Sta Z Z.heap "jdk/internal/util/Preconditions" "SIOOBE_FORMATTER" "Ljava/util/function/BiFunction;" gv) (hzc : ¬ (zc = (0 : Int32))) (hgv : gv.isRef = true) :
    MetFree l x (head1 (Jvm.Cond.code x code maxLocals ret :: ws) room_1) (fun a U => a = #[(.int i0), (.int i1), (.int i2), (.int i3), (.int i4)] ∧ Z.Warmed39 U.vm ∧ U.heap = h0) (fun _ _ _ _ _ => True) (fun _ U o U' => ∃ v L, o = .returned v ∧ Q_rm0 Z i0 i1 i2 i3 i4 zc gv h0 n0 v U'.heap L ∧ ReturnedEndW U o U' L room_1.cells room_1.slots) := by
  refine MetFree.of_bodySF (plainFor_of_name pn_com_example_libtardy_libtardy_QueueNameOfPinLaw) hisR ?_
  intro p e s m args below meth c s₁ Bd hml0 hP hK
  obtain ⟨rfl, hZ, hh⟩ := hP
  have hx := Bd.exec
  have hby := Bd.bytes
  have hml : c.maxLocals = 13 := hml0
  have hown : s.vm.findClass "com/example/libtardy/libtardy/QueueNameOfPinLaw" = some m.cls := findClass_of_methodNamed Bd.named
  have hnm := (name_of_methodNamed Bd.named Bd.method).1
  have X0 : Stand p l e room_1 (s.setVm s.vm) m #[(.int i0), (.int i1), (.int i2), (.int i3), (.int i4)] below meth c s₁ [] 0 0 := Stand.of_body Bd
  have e0 : s₁.heap = h0 := by rw [← hh, Bd.state]; rfl
  have N0 := Fr.nil n0
  have pre0 : ∀ t, Steps p.tables e below (s₁.setTop (mkF m 0 #[.val (.int i0), .val (.int i1), .val (.int i2), .val (.int i3), .val (.int i4), .unset, .unset, .unset, .unset, .unset, .unset, .unset, .unset] [])) t → Steps p.tables e below (s₁.setTop (entryFrame m #[(.int i0), (.int i1), (.int i2), (.int i3), (.int i4)] maxLocals)) t := fun t k => castTop (ef_rm0 m i0 i1 i2 i3 i4) k
  have hZ : Z.Warmed39 (s.setVm s.vm).vm := hZ
  have hown : (s.setVm s.vm).vm.findClass "com/example/libtardy/libtardy/QueueNameOfPinLaw" = some m.cls := hown
  have hS : s.Since s.vm 0 := (State.WarmedH.refl s).since 0
  have oz := OLD.1
  refine own_go (B := s₁.setTop (mkF m 0 #[.val (.int i0), .val (.int i1), .val (.int i2), .val (.int i3), .val (.int i4), .unset, .unset, .unset, .unset, .unset, .unset, .unset, .unset] [])) pre0 ?_
  show ∃ t o, Steps p.tables e below (s₁.setTop (mkF m 0 #[.val (.int i0), .val (.int i1), .val (.int i2), .val (.int i3), .val (.int i4), .unset, .unset, .unset, .unset, .unset, .unset, .unset, .unset] [])) t ∧ _
  refine own_go (fun _ => XS.iconst X0.here hx rfl (hb hby at_0)) ?_
  refine own_go (fun _ => XS.iloadN X0.here hx rfl (hb hby at_1) rfl) ?_
  refine own_go (fun _ => XS.iconst X0.here hx rfl (hb hby at_2)) ?_
  show ∃ t o, Steps p.tables e below (s₁.setTop (mkF m 3 #[.val (.int i0), .val (.int i1), .val (.int i2), .val (.int i3), .val (.int i4), .unset, .unset, .unset, .unset, .unset, .unset, .unset, .unset] [(.int (3 : Int32)), (.int i0), (.int (1 : Int32))])) t ∧ _
  refine own_go (fun _ => XS.iand X0.here hx rfl (hb hby at_3) rfl) ?_
  refine own_go (fun _ => XS.iadd X0.here hx rfl (hb hby at_4) rfl) ?_
  refine own_go (fun _ => XS.istore X0.here hx rfl (hb hby at_5) rfl (l' := #[.val (.int i0), .val (.int i1), .val (.int i2), .val (.int i3), .val (.int i4), .val (.int ((1 : Int32) + (i0 &&& (3 : Int32)))), .unset, .unset, .unset, .unset, .unset, .unset, .unset]) rfl) ?_
  show ∃ t o, Steps p.tables e below (s₁.setTop (mkF m 7 #[.val (.int i0), .val (.int i1), .val (.int i2), .val (.int i3), .val (.int i4), .val (.int ((1 : Int32) + (i0 &&& (3 : Int32)))), .unset, .unset, .unset, .unset, .unset, .unset, .unset] [])) t ∧ _
  refine own_go (fun _ => XS.iloadN X0.here hx rfl (hb hby at_7) rfl) ?_
  show ∃ t o, Steps p.tables e below (s₁.setTop (mkF m 8 #[.val (.int i0), .val (.int i1), .val (.int i2), .val (.int i3), .val (.int i4), .val (.int ((1 : Int32) + (i0 &&& (3 : Int32)))), .unset, .unset, .unset, .unset, .unset, .unset, .unset] [(.int i1)])) t ∧ _
  obtain ⟨_, _, ⟨T3, L3, k3, n3⟩, -, X3, ⟨Lc3, hQ3, l3, y3, z3⟩, st3⟩ := Jvm.LawKit.callS X0 hx (y := (⟨"com/example/libtardy/libtardy/QueueNameOfPinLaw", "allowed", "(I)C"⟩ : MethodName)) hown (mvT hZ (hw _ (List.mem_of_getElem? (i := 0) rfl))) (mvT hZ (hw _ (List.mem_of_getElem? (i := 1) rfl))) (mvT hZ (hw _ (List.mem_of_getElem? (i := 2) rfl))) (mvT hZ (hw _ (List.mem_of_getElem? (i := 3) rfl))) (by decide) (backOf (W := 0) (rmAl l Z a0 hw [] i1 h0 n0 Z0 OLD) hZ (hw _ (List.mem_of_getElem? (i := 3) rfl)) (hw _ (List.mem_of_getElem? (i := 2) rfl)) (by decide) (by decide)) (g := (mkF m 8 #[.val (.int i0), .val (.int i1), .val (.int i2), .val (.int i3), .val (.int i4), .val (.int ((1 : Int32) + (i0 &&& (3 : Int32)))), .unset, .unset, .unset, .unset, .unset, .unset, .unset] [(.int i1)])) rfl (by rw [hml]; rfl) (argsL := [(.int i1)]) (rest := []) (lenOf pd__28I_29C rfl) rfl (by show 2 * 0 + _ ≤ _; exact Nat.le_of_eq rfl) (hb hby at_8) (fun _ _ => ⟨rfl, e0, (by decide : 0 + 0 ≤ _), (by decide : 0 + 0 ≤ _)⟩)
  dsimp only [Pt.U, Pt.locs, Pt.cells, Pt.slots] at X3 l3 y3 z3 st3 hQ3
  subst l3 y3 z3
  obtain ⟨cc_3, rfl, Nq3, e3, H3_0⟩ := hQ3
  have N3 := Fr.app N0 Nq3
  refine own_go st3 ?_
  refine own_go (fun _ => XS.istore X3.here hx rfl (hb hby at_11) rfl (l' := #[.val (.int i0), .val (.int i1), .val (.int i2), .val (.int i3), .val (.int i4), .val (.int ((1 : Int32) + (i0 &&& (3 : Int32)))), .val (.int cc_3), .unset, .unset, .unset, .unset, .unset, .unset]) rfl) ?_
  refine own_go (fun _ => XS.iloadN X3.here hx rfl (hb hby at_13) rfl) ?_
  show ∃ t o, Steps p.tables e below (T3.setTop (mkF m 14 #[.val (.int i0), .val (.int i1), .val (.int i2), .val (.int i3), .val (.int i4), .val (.int ((1 : Int32) + (i0 &&& (3 : Int32)))), .val (.int cc_3), .unset, .unset, .unset, .unset, .unset, .unset] [(.int i2)])) t ∧ _
  obtain ⟨_, _, ⟨T4, L4, k4, n4⟩, -, X4, ⟨Lc4, hQ4, l4, y4, z4⟩, st4⟩ := Jvm.LawKit.callS X3 hx (y := (⟨"com/example/libtardy/libtardy/QueueNameOfPinLaw", "allowed", "(I)C"⟩ : MethodName)) hown (mvT hZ (hw _ (List.mem_of_getElem? (i := 0) rfl))) (mvT hZ (hw _ (List.mem_of_getElem? (i := 1) rfl))) (mvT hZ (hw _ (List.mem_of_getElem? (i := 2) rfl))) (mvT hZ (hw _ (List.mem_of_getElem? (i := 3) rfl))) (by decide) (backOf (W := 0) (rmAl l Z a0 hw [] i2 h0 n0 Z0 OLD) hZ (hw _ (List.mem_of_getElem? (i := 3) rfl)) (hw _ (List.mem_of_getElem? (i := 2) rfl)) (by decide) (by decide)) (g := (mkF m 14 #[.val (.int i0), .val (.int i1), .val (.int i2), .val (.int i3), .val (.int i4), .val (.int ((1 : Int32) + (i0 &&& (3 : Int32)))), .val (.int cc_3), .unset, .unset, .unset, .unset, .unset, .unset] [(.int i2)])) rfl (by rw [hml]; rfl) (argsL := [(.int i2)]) (rest := []) (lenOf pd__28I_29C rfl) rfl (by show 2 * 0 + _ ≤ _; exact Nat.le_of_eq rfl) (hb hby at_14) (fun _ _ => ⟨rfl, e3, (by decide : 0 + 0 ≤ _), (by decide : 0 + 0 ≤ _)⟩)
  dsimp only [Pt.U, Pt.locs, Pt.cells, Pt.slots] at X4 l4 y4 z4 st4 hQ4
  subst l4 y4 z4
  obtain ⟨cc_4, rfl, Nq4, e4, H4_0⟩ := hQ4
  have N4 := Fr.app N3 Nq4
  refine own_go st4 ?_
  refine own_go (fun _ => XS.istore X4.here hx rfl (hb hby at_17) rfl (l' := #[.val (.int i0), .val (.int i1), .val (.int i2), .val (.int i3), .val (.int i4), .val (.int ((1 : Int32) + (i0 &&& (3 : Int32)))), .val (.int cc_3), .val (.int cc_4), .unset, .unset, .unset, .unset, .unset]) rfl) ?_
  refine own_go (fun _ => XS.iloadN X4.here hx rfl (hb hby at_19) rfl) ?_
  show ∃ t o, Steps p.tables e below (T4.setTop (mkF m 20 #[.val (.int i0), .val (.int i1), .val (.int i2), .val (.int i3), .val (.int i4), .val (.int ((1 : Int32) + (i0 &&& (3 : Int32)))), .val (.int cc_3), .val (.int cc_4), .unset, .unset, .unset, .unset, .unset] [(.int i3)])) t ∧ _
  obtain ⟨_, _, ⟨T5, L5, k5, n5⟩, -, X5, ⟨Lc5, hQ5, l5, y5, z5⟩, st5⟩ := Jvm.LawKit.callS X4 hx (y := (⟨"com/example/libtardy/libtardy/QueueNameOfPinLaw", "allowed", "(I)C"⟩ : MethodName)) hown (mvT hZ (hw _ (List.mem_of_getElem? (i := 0) rfl))) (mvT hZ (hw _ (List.mem_of_getElem? (i := 1) rfl))) (mvT hZ (hw _ (List.mem_of_getElem? (i := 2) rfl))) (mvT hZ (hw _ (List.mem_of_getElem? (i := 3) rfl))) (by decide) (backOf (W := 0) (rmAl l Z a0 hw [] i3 h0 n0 Z0 OLD) hZ (hw _ (List.mem_of_getElem? (i := 3) rfl)) (hw _ (List.mem_of_getElem? (i := 2) rfl)) (by decide) (by decide)) (g := (mkF m 20 #[.val (.int i0), .val (.int i1), .val (.int i2), .val (.int i3), .val (.int i4), .val (.int ((1 : Int32) + (i0 &&& (3 : Int32)))), .val (.int cc_3), .val (.int cc_4), .unset, .unset, .unset, .unset, .unset] [(.int i3)])) rfl (by rw [hml]; rfl) (argsL := [(.int i3)]) (rest := []) (lenOf pd__28I_29C rfl) rfl (by show 2 * 0 + _ ≤ _; exact Nat.le_of_eq rfl) (hb hby at_20) (fun _ _ => ⟨rfl, e4, (by decide : 0 + 0 ≤ _), (by decide : 0 + 0 ≤ _)⟩)
  dsimp only [Pt.U, Pt.locs, Pt.cells, Pt.slots] at X5 l5 y5 z5 st5 hQ5
  subst l5 y5 z5
  obtain ⟨cc_5, rfl, Nq5, e5, H5_0⟩ := hQ5
  have N5 := Fr.app N4 Nq5
  refine own_go st5 ?_
  refine own_go (fun _ => XS.istore X5.here hx rfl (hb hby at_23) rfl (l' := #[.val (.int i0), .val (.int i1), .val (.int i2), .val (.int i3), .val (.int i4), .val (.int ((1 : Int32) + (i0 &&& (3 : Int32)))), .val (.int cc_3), .val (.int cc_4), .val (.int cc_5), .unset, .unset, .unset, .unset]) rfl) ?_
  refine own_go (fun _ => XS.iload X5.here hx rfl (hb hby at_25) rfl) ?_
  show ∃ t o, Steps p.tables e below (T5.setTop (mkF m 27 #[.val (.int i0), .val (.int i1), .val (.int i2), .val (.int i3), .val (.int i4), .val (.int ((1 : Int32) + (i0 &&& (3 : Int32)))), .val (.int cc_3), .val (.int cc_4), .val (.int cc_5), .unset, .unset, .unset, .unset] [(.int i4)])) t ∧ _
  obtain ⟨_, _, ⟨T6, L6, k6, n6⟩, -, X6, ⟨Lc6, hQ6, l6, y6, z6⟩, st6⟩ := Jvm.LawKit.callS X5 hx (y := (⟨"com/example/libtardy/libtardy/QueueNameOfPinLaw", "allowed", "(I)C"⟩ : MethodName)) hown (mvT hZ (hw _ (List.mem_of_getElem? (i := 0) rfl))) (mvT hZ (hw _ (List.mem_of_getElem? (i := 1) rfl))) (mvT hZ (hw _ (List.mem_of_getElem? (i := 2) rfl))) (mvT hZ (hw _ (List.mem_of_getElem? (i := 3) rfl))) (by decide) (backOf (W := 0) (rmAl l Z a0 hw [] i4 h0 n0 Z0 OLD) hZ (hw _ (List.mem_of_getElem? (i := 3) rfl)) (hw _ (List.mem_of_getElem? (i := 2) rfl)) (by decide) (by decide)) (g := (mkF m 27 #[.val (.int i0), .val (.int i1), .val (.int i2), .val (.int i3), .val (.int i4), .val (.int ((1 : Int32) + (i0 &&& (3 : Int32)))), .val (.int cc_3), .val (.int cc_4), .val (.int cc_5), .unset, .unset, .unset, .unset] [(.int i4)])) rfl (by rw [hml]; rfl) (argsL := [(.int i4)]) (rest := []) (lenOf pd__28I_29C rfl) rfl (by show 2 * 0 + _ ≤ _; exact Nat.le_of_eq rfl) (hb hby at_27) (fun _ _ => ⟨rfl, e5, (by decide : 0 + 0 ≤ _), (by decide : 0 + 0 ≤ _)⟩)
  dsimp only [Pt.U, Pt.locs, Pt.cells, Pt.slots] at X6 l6 y6 z6 st6 hQ6
  subst l6 y6 z6
  obtain ⟨cc_6, rfl, Nq6, e6, H6_0⟩ := hQ6
  have N6 := Fr.app N5 Nq6
  refine own_go st6 ?_
  refine own_go (fun _ => XS.istore X6.here hx rfl (hb hby at_30) rfl (l' := #[.val (.int i0), .val (.int i1), .val (.int i2), .val (.int i3), .val (.int i4), .val (.int ((1 : Int32) + (i0 &&& (3 : Int32)))), .val (.int cc_3), .val (.int cc_4), .val (.int cc_5), .val (.int cc_6), .unset, .unset, .unset]) rfl) ?_
  show ∃ t o, Steps p.tables e below (T6.setTop (mkF m 32 #[.val (.int i0), .val (.int i1), .val (.int i2), .val (.int i3), .val (.int i4), .val (.int ((1 : Int32) + (i0 &&& (3 : Int32)))), .val (.int cc_3), .val (.int cc_4), .val (.int cc_5), .val (.int cc_6), .unset, .unset, .unset] [])) t ∧ _
  rcases own_and3 i0 with hk | hk | hk | hk
  · rw [hk]
    refine own_go (fun _ => XS.iload X6.here hx rfl (hb hby at_32) rfl) ?_
    show ∃ t o, Steps p.tables e below (T6.setTop (mkF m 34 #[.val (.int i0), .val (.int i1), .val (.int i2), .val (.int i3), .val (.int i4), .val (.int (1 : Int32)), .val (.int cc_3), .val (.int cc_4), .val (.int cc_5), .val (.int cc_6), .unset, .unset, .unset] [(.int (1 : Int32))])) t ∧ _
    refine own_go (fun _ => XS.iconst X6.here hx rfl (hb hby at_34)) ?_
    show ∃ t o, Steps p.tables e below (T6.setTop (mkF m 35 #[.val (.int i0), .val (.int i1), .val (.int i2), .val (.int i3), .val (.int i4), .val (.int (1 : Int32)), .val (.int cc_3), .val (.int cc_4), .val (.int cc_5), .val (.int cc_6), .unset, .unset, .unset] [(.int (1 : Int32)), (.int (1 : Int32))])) t ∧ _
    refine own_go (fun _ => XS.icmpNo X6.here hx rfl (hb hby at_35) rfl (teq (by decide : (1 : Int32) = (1 : Int32))).2) ?_
    show ∃ t o, Steps p.tables e below (T6.setTop (mkF m 38 #[.val (.int i0), .val (.int i1), .val (.int i2), .val (.int i3), .val (.int i4), .val (.int (1 : Int32)), .val (.int cc_3), .val (.int cc_4), .val (.int cc_5), .val (.int cc_6), .unset, .unset, .unset] [])) t ∧ _
    obtain ⟨T7, h7, X7, e7, E7, A7, D7, -, st7⟩ := newO X6 hx hZ hown (hw _ (List.mem_of_getElem? (i := 5) rfl)) (hw _ (List.mem_of_getElem? (i := 6) rfl)) (hw _ (List.mem_of_getElem? (i := 7) rfl)) e6 (g := (mkF m 38 #[.val (.int i0), .val (.int i1), .val (.int i2), .val (.int i3), .val (.int i4), .val (.int (1 : Int32)), .val (.int cc_3), .val (.int cc_4), .val (.int cc_5), .val (.int cc_6), .unset, .unset, .unset] [])) rfl (hb hby at_38) (by decide) (by decide)
    obtain ⟨b7, g7⟩ : ∃ z, z = h0.size := ⟨_, rfl⟩
    rw [← g7] at A7 D7 st7
    refine own_go st7 ?_
    have le_7 : h0.size ≤ h7.size := E7.1
    have lt_b7 : b7 < h7.size := A7.lt
    have F_coder_b7 : Fld Z h7 b7 "java/lang/String" "coder" "B" (.int (0 : Int32)) := D7 (Or.inr (hw _ (List.mem_of_getElem? (i := 32) rfl))) (ty := .byte) (by decide)
    have F_value_b7 : Fld Z h7 b7 "java/lang/String" "value" "[B" .null := D7 (Or.inr (hw _ (List.mem_of_getElem? (i := 34) rfl))) (ty := (.array .byte)) (by decide)
    have K7 : Keep h0 h7 [] := Keep.ext (Keep.refl h0 []) E7
    refine own_go (fun _ => XS.dup X7.here hx rfl (hb hby at_41) rfl rfl) ?_
    refine own_go (fun _ => XS.iconst X7.here hx rfl (hb hby at_42)) ?_
    show ∃ t o, Steps p.tables e below (T7.setTop (mkF m 43 #[.val (.int i0), .val (.int i1), .val (.int i2), .val (.int i3), .val (.int i4), .val (.int (1 : Int32)), .val (.int cc_3), .val (.int cc_4), .val (.int cc_5), .val (.int cc_6), .unset, .unset, .unset] [(.int (1 : Int32)), (.ref b7), (.ref b7)])) t ∧ _
    obtain ⟨T8, h8, k8, X8, e8, E8, A8, st8⟩ := newP X7 hx hZ (hw _ (List.mem_of_getElem? (i := 8) rfl)) e7 (g := (mkF m 43 #[.val (.int i0), .val (.int i1), .val (.int i2), .val (.int i3), .val (.int i4), .val (.int (1 : Int32)), .val (.int cc_3), .val (.int cc_4), .val (.int cc_5), .val (.int cc_6), .unset, .unset, .unset] [(.int (1 : Int32)), (.ref b7), (.ref b7)])) rfl (hb hby at_43) rfl (by decide) (cap := 1) (by decide) (by decide) (by decide) (by decide)
    obtain ⟨b8, g8⟩ : ∃ z, z = h7.size := ⟨_, rfl⟩
    rw [← g8] at A8 st8
    refine own_go st8 ?_
    have le_8 : h7.size ≤ h8.size := E8.1
    have lt_b8 : b8 < h8.size := A8.lt
    have V_b8 : Arv Z h8 b8 k8 .char (1 : Int32) [(.int (0 : Int32))] (.int (0 : Int32)) := (Arv.new A8 (by decide)).pad (pad_rep [] (.int (0 : Int32)) 1)
    have K8 : Keep h0 h8 [] := Keep.ext K7 E8
    refine own_go (fun _ => XS.dup X8.here hx rfl (hb hby at_45) rfl rfl) ?_
    refine own_go (fun _ => XS.iconst X8.here hx rfl (hb hby at_46)) ?_
    show ∃ t o, Steps p.tables e below (T8.setTop (mkF m 47 #[.val (.int i0), .val (.int i1), .val (.int i2), .val (.int i3), .val (.int i4), .val (.int (1 : Int32)), .val (.int cc_3), .val (.int cc_4), .val (.int cc_5), .val (.int cc_6), .unset, .unset, .unset] [(.int (0 : Int32)), (.ref b8), (.ref b8), (.ref b7), (.ref b7)])) t ∧ _
    refine own_go (fun _ => XS.iload X8.here hx rfl (hb hby at_47) rfl) ?_
    obtain ⟨cl9, Ar9, q9, S9, N9, H9, G9⟩ := id V_b8
    have hin9 : ¬ ((0 : Int32) < 0 ∨ cl9.slots.size ≤ ((0 : Int32)).toNatClampNeg) := inb_of S9 ⟨by decide, by decide⟩
    obtain ⟨T10, h10, X10, e10, W10, st10⟩ := stC X8 hx hZ e8 Ar9 (j := (0 : Int32)) hin9 (g := (mkF m 49 #[.val (.int i0), .val (.int i1), .val (.int i2), .val (.int i3), .val (.int i4), .val (.int (1 : Int32)), .val (.int cc_3), .val (.int cc_4), .val (.int cc_5), .val (.int cc_6), .unset, .unset, .unset] [(.int cc_3), (.int (0 : Int32)), (.ref b8), (.ref b8), (.ref b7), (.ref b7)])) rfl rfl (hb hby at_49)
    refine own_go st10 ?_
    have ge11 : n0 ≤ b8 := by omega
    have le_10 : h8.size ≤ h10.size := Nat.le_of_eq W10.size.symm
    have sz12 : h0.size ≤ b8 := by omega
    have K10 : Keep h0 h10 [] := Keep.wr K8 W10 (Or.inr sz12)
    have N10 := Fr.snoc X10 N6 ge11
    have V10 : Arv Z h10 b8 k8 .char (1 : Int32) [(.int (nar .char cc_3))] (.int (0 : Int32)) := Arv.set Ar9 q9 S9 N9 H9 G9 (fits_nar_char _) W10 0 rfl (Nat.le_of_ble_eq_true rfl)
    show ∃ t o, Steps p.tables e below (T10.setTop (mkF m 50 #[.val (.int i0), .val (.int i1), .val (.int i2), .val (.int i3), .val (.int i4), .val (.int (1 : Int32)), .val (.int cc_3), .val (.int cc_4), .val (.int cc_5), .val (.int cc_6), .unset, .unset, .unset] [(.ref b8), (.ref b7), (.ref b7)])) t ∧ _
    have hws : ∀ d ∈ StrChars.Road.words, d.before a0 Z = true := fun d hd => hw d ((by decide +kernel : ∀ d ∈ StrChars.Road.words, d ∈ tables_1) d hd)
    have hp13 : ∀ c ∈ ([(nar .char cc_3)] : List Int32), ¬ c < 0 ∧ ¬ (255 : Int32) < c := (own_allS (own_okrg (own_okn H3_0)) own_all0)
    have F14 : Exa Z h10 b7 "java/lang/String" := (Exa.wr W10 (Exa.ext E8 A7))
    have ne15 : b7 ≠ b8 := own_ne (by omega)
    have F16 : Fld Z h10 b7 "java/lang/String" "value" "[B" .null := (Fld.other W10 (Fld.ext E8 F_value_b7) (Or.inl ne15))
    have F17 : Fld Z h10 b7 "java/lang/String" "coder" "B" (.int (0 : Int32)) := (Fld.other W10 (Fld.ext E8 F_coder_b7) (Or.inl ne15))
    have F18 : Old Z n0 h10 := (Old.wr ((OLD.ext E7).ext E8) W10 ge11)
    have zl19 : n0 ≤ h10.size := by omega
    have ge20 : n0 ≤ b7 := by omega
    obtain ⟨_, _, ⟨T13, L13, k13, n13⟩, -, X13, ⟨Lc13, hQ13, l13, y13, z13⟩, st13⟩ := X10.specialBack hx (y := (⟨"java/lang/String", "<init>", "([C)V"⟩ : MethodName)) rfl hown (mvT hZ (hw _ (List.mem_of_getElem? (i := 9) rfl))) (mvT hZ (hw _ (List.mem_of_getElem? (i := 10) rfl))) (mvT hZ (hw _ (List.mem_of_getElem? (i := 11) rfl))) (by decide) (StrChars.Road.backV (W := 1) hZ hws (kI := 4) (hw _ (List.mem_of_getElem? (i := 6) rfl)) (cs := ([(nar .char cc_3)] : List Int32)) (bs := (([(nar .char cc_3)] : List Int32)).map (fun c => c.toInt8.toInt32)) (n := 1) ge20 zl19 F14 F16 F17 V10 (Sta.ext F18.2 P1) hzc rfl rfl (by decide) (by decide) hp13 rfl (by decide) (by decide)) (g := (mkF m 50 #[.val (.int i0), .val (.int i1), .val (.int i2), .val (.int i3), .val (.int i4), .val (.int (1 : Int32)), .val (.int cc_3), .val (.int cc_4), .val (.int cc_5), .val (.int cc_6), .unset, .unset, .unset] [(.ref b8), (.ref b7), (.ref b7)])) rfl (by rw [hml]; rfl) (Steps.refl _) (a := b7) (argsL := [(.ref b8)]) (rest := [(.ref b7)]) (lenOf pd__28_5bC_29V rfl) rfl (by show 2 * 0 + _ ≤ _; exact Nat.le_of_eq rfl) (hb hby at_50) (fun _ _ => ⟨rfl, e10, (by decide : 2 + 1 ≤ _), (by decide : 5 + 1 ≤ _)⟩)
    dsimp only [Pt.U, Pt.locs, Pt.cells, Pt.slots] at X13 l13 y13 z13 st13 hQ13
    subst l13 y13 z13
    obtain ⟨rfl, Nq13, Kp13, G13_0, G13_1, t13, kb13, u13_1, u13_2, u13_3, G13_2, G13_3⟩ := hQ13
    have N13 := Fr.app N10 Nq13
    refine own_goT st13 ?_
    have le_13 : h10.size ≤ T13.heap.size := Kp13.1
    have sz21 : h0.size ≤ b7 := by omega
    have K13 : Keep h0 T13.heap [] := Keep.trans K10 Kp13 (allS (Or.inr sz21) all0)
    have G13_4 : Arv Z T13.heap t13 kb13 .byte (1 : Int32) [(.int ((nar .char cc_3).toInt8.toInt32))] (.int (0 : Int32)) := G13_3
    have lt_t13 : (t13 : Nat) < T13.heap.size := G13_3.lt
    refine own_go (fun _ => XS.astore X13.here hx rfl (hb hby at_53) rfl rfl (l' := #[.val (.int i0), .val (.int i1), .val (.int i2), .val (.int i3), .val (.int i4), .val (.int (1 : Int32)), .val (.int cc_3), .val (.int cc_4), .val (.int cc_5), .val (.int cc_6), .val (.ref b7), .unset, .unset]) rfl) ?_
    refine own_go (fun _ => XS.goto X13.here hx rfl (pc0 := 55) (pc' := 157) rfl (hb hby at_55) (by decide) (by decide)) ?_
    show ∃ t o, Steps p.tables e below (T13.setTop (mkF m 157 #[.val (.int i0), .val (.int i1), .val (.int i2), .val (.int i3), .val (.int i4), .val (.int (1 : Int32)), .val (.int cc_3), .val (.int cc_4), .val (.int cc_5), .val (.int cc_6), .val (.ref b7), .unset, .unset] [])) t ∧ _
    refine own_go (fun _ => XS.aload X13.here hx rfl (hb hby at_157) rfl rfl) ?_
    show ∃ t o, Steps p.tables e below (T13.setTop (mkF m 159 #[.val (.int i0), .val (.int i1), .val (.int i2), .val (.int i3), .val (.int i4), .val (.int (1 : Int32)), .val (.int cc_3), .val (.int cc_4), .val (.int cc_5), .val (.int cc_6), .val (.ref b7), .unset, .unset] [(.ref b7)])) t ∧ _
    have F22 : Old Z n0 T13.heap := (Old.keep F18 Kp13 (allS ge20 all0))
    have zl23 : n0 ≤ T13.heap.size := by omega
    obtain ⟨_, _, ⟨T24, L24, k24, n24⟩, -, X24, hSn24, hgn24, ⟨Lc24, hQ24, l24, y24, z24⟩, st24⟩ := callSS X13 hx (y := (⟨"com/example/libtardy/libtardy/QueueName", "of", "(Ljava/lang/String;)Lcom/example/libtardy/libtardy/QueueName;"⟩ : MethodName)) hown (mvT hZ (hw _ (List.mem_of_getElem? (i := 35) rfl))) (mvT hZ (hw _ (List.mem_of_getElem? (i := 36) rfl))) (mvT hZ (hw _ (List.mem_of_getElem? (i := 37) rfl))) (mvT hZ (hw _ (List.mem_of_getElem? (i := 38) rfl))) (by decide) (backOfS (W := 0) (rmOf1 l Z a0 hw [] b7 t13 kb13 (nar .char cc_3) zc gv T13.heap n0 zl23 G13_0 G13_2 G13_1 G13_4 F22 P1 P2 hzc hgv (own_okn H3_0 : own_ok (nar .char cc_3))) hZ (hw _ (List.mem_of_getElem? (i := 38) rfl)) (hw _ (List.mem_of_getElem? (i := 37) rfl)) (by decide) (by decide)) (g := (mkF m 159 #[.val (.int i0), .val (.int i1), .val (.int i2), .val (.int i3), .val (.int i4), .val (.int (1 : Int32)), .val (.int cc_3), .val (.int cc_4), .val (.int cc_5), .val (.int cc_6), .val (.ref b7), .unset, .unset] [(.ref b7)])) rfl (by rw [hml]; rfl) (argsL := [(.ref b7)]) (rest := []) (lenOf pd_h60344592 rfl) rfl (by show 2 * 0 + _ ≤ _; exact Nat.le_of_eq rfl) (hb hby at_159) (fun _ _ => ⟨rfl, rfl, (by decide : 3 + 3 ≤ _), (by decide : 6 + 21 ≤ _)⟩)
    dsimp only [Pt.U, Pt.locs, Pt.cells, Pt.slots] at X24 l24 y24 z24 st24 hQ24 hSn24 hgn24
    subst l24 y24 z24
    have hZ : Z.Warmed39 (s.setVm T24.vm).vm := State.Warmed39.trans (t := s.setVm s.vm) hZ hSn24.1
    have hown : (s.setVm T24.vm).vm.findClass "com/example/libtardy/libtardy/QueueNameOfPinLaw" = some m.cls := by rw [show (s.setVm T24.vm).vm = T24.vm from rfl, hSn24.1.alike.findClass]; exact hown
    have hS : s.Since T24.vm T24.heap.size := foldS (T := T13) hS (Nat.zero_le _) hSn24 hgn24
    have X24 : Stand p l e _ (s.setVm T24.vm) m _ below meth c T24 _ _ _ := X24
    obtain ⟨b_24, rfl, Nq24, Kp24, G24_0, G24_1⟩ := hQ24
    have N24 := Fr.app N13 Nq24
    refine own_goT st24 ?_
    have le_24 : T13.heap.size ≤ T24.heap.size := Kp24.1
    have K24 : Keep h0 T24.heap [] := Keep.trans K13 Kp24 all0
    have lt_b_24 : b_24 < T24.heap.size := (G24_0).lt
    refine own_go (fun _ => XS.astore X24.here hx rfl (hb hby at_162) rfl rfl (l' := #[.val (.int i0), .val (.int i1), .val (.int i2), .val (.int i3), .val (.int i4), .val (.int (1 : Int32)), .val (.int cc_3), .val (.int cc_4), .val (.int cc_5), .val (.int cc_6), .val (.ref b7), .val (.ref b_24), .unset]) rfl) ?_
    refine own_go (fun _ => XS.aload X24.here hx rfl (hb hby at_164) rfl rfl) ?_
    show ∃ t o, Steps p.tables e below (T24.setTop (mkF m 166 #[.val (.int i0), .val (.int i1), .val (.int i2), .val (.int i3), .val (.int i4), .val (.int (1 : Int32)), .val (.int cc_3), .val (.int cc_4), .val (.int cc_5), .val (.int cc_6), .val (.ref b7), .val (.ref b_24), .unset] [(.ref b_24)])) t ∧ _
    refine own_go (fun _ => XS.ifnonnullYes X24.here hx rfl (pc0 := 166) (pc' := 171) rfl (hb hby at_166) rfl (by decide) (by decide)) ?_
    refine own_go (fun _ => XS.aload X24.here hx rfl (hb hby at_171) rfl rfl) ?_
    show ∃ t o, Steps p.tables e below (T24.setTop (mkF m 173 #[.val (.int i0), .val (.int i1), .val (.int i2), .val (.int i3), .val (.int i4), .val (.int (1 : Int32)), .val (.int cc_3), .val (.int cc_4), .val (.int cc_5), .val (.int cc_6), .val (.ref b7), .val (.ref b_24), .unset] [(.ref b_24)])) t ∧ _
    have F25 : Old Z n0 T24.heap := (Old.keep F22 Kp24 all0)
    have zl26 : n0 ≤ T24.heap.size := by omega
    obtain ⟨cq27, kq27, q27a, q27b, q27c⟩ := isOf hZ rfl G24_0
    obtain ⟨_, _, ⟨T27, L27, k27, n27⟩, -, X27, ⟨Lc27, hQ27, l27, y27, z27⟩, st27⟩ := X24.virtualBack hx (y := (⟨"com/example/libtardy/libtardy/QueueName", "toString", "()Ljava/lang/String;"⟩ : MethodName)) (z := (⟨"com/example/libtardy/libtardy/QueueName", "toString", "()Ljava/lang/String;"⟩ : MethodName)) hown (mvT hZ (hw _ (List.mem_of_getElem? (i := 94) rfl))) (mvT hZ (hw _ (List.mem_of_getElem? (i := 95) rfl))) (notFace_of_selects (args := #[]) (mvT hZ (hw _ (List.mem_of_getElem? (i := 97) rfl)))) (mvT hZ (hw _ (List.mem_of_getElem? (i := 97) rfl))) (mvT hZ (hw _ (List.mem_of_getElem? (i := 96) rfl))) (by decide) (backOf (W := 0) (rmTos l Z a0 hw [] b_24 b7 T24.heap n0 zl26 G24_1 F25) hZ (hw _ (List.mem_of_getElem? (i := 98) rfl)) (hw _ (List.mem_of_getElem? (i := 37) rfl)) (by decide) (by decide)) q27a q27c (g := (mkF m 173 #[.val (.int i0), .val (.int i1), .val (.int i2), .val (.int i3), .val (.int i4), .val (.int (1 : Int32)), .val (.int cc_3), .val (.int cc_4), .val (.int cc_5), .val (.int cc_6), .val (.ref b7), .val (.ref b_24), .unset] [(.ref b_24)])) rfl (by rw [hml]; rfl) (Steps.refl _) (argsL := []) (rest := []) (lenOf pd__28_29Ljava_2flang_2fString_3b rfl) rfl (by show 2 * 0 + _ ≤ _; exact Nat.le_of_eq rfl) (hb hby at_173) (fun _ _ => ⟨rfl, rfl, (by decide : 6 + 0 ≤ _), (by decide : 27 + 0 ≤ _)⟩)
    dsimp only [Pt.U, Pt.locs, Pt.cells, Pt.slots] at X27 l27 y27 z27 st27 hQ27
    subst l27 y27 z27
    obtain ⟨rfl, Nq27, e27⟩ := hQ27
    have N27 := Fr.app N24 Nq27
    refine own_goT st27 ?_
    refine own_go (fun _ => XS.astore X27.here hx rfl (hb hby at_176) rfl rfl (l' := #[.val (.int i0), .val (.int i1), .val (.int i2), .val (.int i3), .val (.int i4), .val (.int (1 : Int32)), .val (.int cc_3), .val (.int cc_4), .val (.int cc_5), .val (.int cc_6), .val (.ref b7), .val (.ref b_24), .val (.ref b7)]) rfl) ?_
    refine own_go (fun _ => XS.aload X27.here hx rfl (hb hby at_178) rfl rfl) ?_
    show ∃ t o, Steps p.tables e below (T27.setTop (mkF m 180 #[.val (.int i0), .val (.int i1), .val (.int i2), .val (.int i3), .val (.int i4), .val (.int (1 : Int32)), .val (.int cc_3), .val (.int cc_4), .val (.int cc_5), .val (.int cc_6), .val (.ref b7), .val (.ref b_24), .val (.ref b7)] [(.ref b7)])) t ∧ _
    refine own_go (fun _ => XS.ifnonnullYes X27.here hx rfl (pc0 := 180) (pc' := 185) rfl (hb hby at_180) rfl (by decide) (by decide)) ?_
    refine own_go (fun _ => XS.aload X27.here hx rfl (hb hby at_185) rfl rfl) ?_
    refine own_go (fun _ => XS.aload X27.here hx rfl (hb hby at_187) rfl rfl) ?_
    show ∃ t o, Steps p.tables e below (T27.setTop (mkF m 189 #[.val (.int i0), .val (.int i1), .val (.int i2), .val (.int i3), .val (.int i4), .val (.int (1 : Int32)), .val (.int cc_3), .val (.int cc_4), .val (.int cc_5), .val (.int cc_6), .val (.ref b7), .val (.ref b_24), .val (.ref b7)] [(.ref b7), (.ref b7)])) t ∧ _
    have F28 : Exa Z T24.heap b7 "java/lang/String" := (Exa.keep G13_0 Kp24)
    obtain ⟨cq29, kq29, q29a, q29b, q29c⟩ := isOf hZ e27 F28
    obtain ⟨_, _, ⟨T29, L29, k29, n29⟩, -, X29, ⟨Lc29, hQ29, l29, y29, z29⟩, st29⟩ := X27.virtualBack hx (y := (⟨"java/lang/String", "equals", "(Ljava/lang/Object;)Z"⟩ : MethodName)) (z := (⟨"java/lang/String", "equals", "(Ljava/lang/Object;)Z"⟩ : MethodName)) hown (mvT hZ (hw _ (List.mem_of_getElem? (i := 99) rfl))) (mvT hZ (hw _ (List.mem_of_getElem? (i := 100) rfl))) (notFace_of_selects (args := #[]) (mvT hZ (hw _ (List.mem_of_getElem? (i := 102) rfl)))) (mvT hZ (hw _ (List.mem_of_getElem? (i := 102) rfl))) (mvT hZ (hw _ (List.mem_of_getElem? (i := 101) rfl))) (by decide) (backOf (W := 0) (rmEq l Z a0 hw [] b7 T24.heap n0 zl26 F25) hZ (hw _ (List.mem_of_getElem? (i := 103) rfl)) (hw _ (List.mem_of_getElem? (i := 7) rfl)) (by decide) (by decide)) q29a q29c (g := (mkF m 189 #[.val (.int i0), .val (.int i1), .val (.int i2), .val (.int i3), .val (.int i4), .val (.int (1 : Int32)), .val (.int cc_3), .val (.int cc_4), .val (.int cc_5), .val (.int cc_6), .val (.ref b7), .val (.ref b_24), .val (.ref b7)] [(.ref b7), (.ref b7)])) rfl (by rw [hml]; rfl) (Steps.refl _) (argsL := [(.ref b7)]) (rest := []) (lenOf pd__28Ljava_2flang_2fObject_3b_29Z rfl) rfl (by show 2 * 0 + _ ≤ _; exact Nat.le_of_eq rfl) (hb hby at_189) (fun _ _ => ⟨rfl, e27, (by decide : 6 + 0 ≤ _), (by decide : 27 + 0 ≤ _)⟩)
    dsimp only [Pt.U, Pt.locs, Pt.cells, Pt.slots] at X29 l29 y29 z29 st29 hQ29
    subst l29 y29 z29
    obtain ⟨rfl, Nq29, e29⟩ := hQ29
    have N29 := Fr.app N27 Nq29
    refine own_goT st29 ?_
    show ∃ t o, Steps p.tables e below (T29.setTop (mkF m 192 #[.val (.int i0), .val (.int i1), .val (.int i2), .val (.int i3), .val (.int i4), .val (.int (1 : Int32)), .val (.int cc_3), .val (.int cc_4), .val (.int cc_5), .val (.int cc_6), .val (.ref b7), .val (.ref b_24), .val (.ref b7)] [(.int (1 : Int32))])) t ∧ _
    obtain ⟨fs, hr, hrun, hended, hW⟩ := Jvm.Stand.leaveW X29 hS (by rw [e29]; omega) (v := some (.int (1 : Int32))) (fun h => by rw [Bd.returns] at h; cases h)
    refine ⟨_, _, ?_, hrun, hended, _, _, rfl, ?_, ⟨hW.1, hW.2.1, hW.2.2.1, hW.2.2.2.mono (by decide) (by decide)⟩⟩
    · exact retN X29 hx (t := .boolean) Bd.returns (by simp) (hb hby at_192) hr
    · show Q_rm0 Z _ _ _ _ _ _ _ h0 n0 _ T29.heap _
      rw [e29]
      exact ⟨rfl, N29, K24⟩
  · rw [hk]
    refine own_go (fun _ => XS.iload X6.here hx rfl (hb hby at_32) rfl) ?_
    show ∃ t o, Steps p.tables e below (T6.setTop (mkF m 34 #[.val (.int i0), .val (.int i1), .val (.int i2), .val (.int i3), .val (.int i4), .val (.int (2 : Int32)), .val (.int cc_3), .val (.int cc_4), .val (.int cc_5), .val (.int cc_6), .unset, .unset, .unset] [(.int (2 : Int32))])) t ∧ _
    refine own_go (fun _ => XS.iconst X6.here hx rfl (hb hby at_34)) ?_
    show ∃ t o, Steps p.tables e below (T6.setTop (mkF m 35 #[.val (.int i0), .val (.int i1), .val (.int i2), .val (.int i3), .val (.int i4), .val (.int (2 : Int32)), .val (.int cc_3), .val (.int cc_4), .val (.int cc_5), .val (.int cc_6), .unset, .unset, .unset] [(.int (1 : Int32)), (.int (2 : Int32))])) t ∧ _
    refine own_go (fun _ => XS.icmpYes X6.here hx rfl (pc0 := 35) (pc' := 58) rfl (hb hby at_35) rfl (feq (by decide : ¬ ((2 : Int32) = (1 : Int32)))).2 (by decide) (by decide)) ?_
    refine own_go (fun _ => XS.iload X6.here hx rfl (hb hby at_58) rfl) ?_
    refine own_go (fun _ => XS.iconst X6.here hx rfl (hb hby at_60)) ?_
    show ∃ t o, Steps p.tables e below (T6.setTop (mkF m 61 #[.val (.int i0), .val (.int i1), .val (.int i2), .val (.int i3), .val (.int i4), .val (.int (2 : Int32)), .val (.int cc_3), .val (.int cc_4), .val (.int cc_5), .val (.int cc_6), .unset, .unset, .unset] [(.int (2 : Int32)), (.int (2 : Int32))])) t ∧ _
    refine own_go (fun _ => XS.icmpNo X6.here hx rfl (hb hby at_61) rfl (teq (by decide : (2 : Int32) = (2 : Int32))).2) ?_
    show ∃ t o, Steps p.tables e below (T6.setTop (mkF m 64 #[.val (.int i0), .val (.int i1), .val (.int i2), .val (.int i3), .val (.int i4), .val (.int (2 : Int32)), .val (.int cc_3), .val (.int cc_4), .val (.int cc_5), .val (.int cc_6), .unset, .unset, .unset] [])) t ∧ _
    obtain ⟨T30, h30, X30, e30, E30, A30, D30, -, st30⟩ := newO X6 hx hZ hown (hw _ (List.mem_of_getElem? (i := 5) rfl)) (hw _ (List.mem_of_getElem? (i := 6) rfl)) (hw _ (List.mem_of_getElem? (i := 7) rfl)) e6 (g := (mkF m 64 #[.val (.int i0), .val (.int i1), .val (.int i2), .val (.int i3), .val (.int i4), .val (.int (2 : Int32)), .val (.int cc_3), .val (.int cc_4), .val (.int cc_5), .val (.int cc_6), .unset, .unset, .unset] [])) rfl (hb hby at_64) (by decide) (by decide)
    obtain ⟨b30, g30⟩ : ∃ z, z = h0.size := ⟨_, rfl⟩
    rw [← g30] at A30 D30 st30
    refine own_go st30 ?_
    have le_30 : h0.size ≤ h30.size := E30.1
    have lt_b30 : b30 < h30.size := A30.lt
    have F_coder_b30 : Fld Z h30 b30 "java/lang/String" "coder" "B" (.int (0 : Int32)) := D30 (Or.inr (hw _ (List.mem_of_getElem? (i := 32) rfl))) (ty := .byte) (by decide)
    have F_value_b30 : Fld Z h30 b30 "java/lang/String" "value" "[B" .null := D30 (Or.inr (hw _ (List.mem_of_getElem? (i := 34) rfl))) (ty := (.array .byte)) (by decide)
    have K30 : Keep h0 h30 [] := Keep.ext (Keep.refl h0 []) E30
    refine own_go (fun _ => XS.dup X30.here hx rfl (hb hby at_67) rfl rfl) ?_
    refine own_go (fun _ => XS.iconst X30.here hx rfl (hb hby at_68)) ?_
    show ∃ t o, Steps p.tables e below (T30.setTop (mkF m 69 #[.val (.int i0), .val (.int i1), .val (.int i2), .val (.int i3), .val (.int i4), .val (.int (2 : Int32)), .val (.int cc_3), .val (.int cc_4), .val (.int cc_5), .val (.int cc_6), .unset, .unset, .unset] [(.int (2 : Int32)), (.ref b30), (.ref b30)])) t ∧ _
    obtain ⟨T31, h31, k31, X31, e31, E31, A31, st31⟩ := newP X30 hx hZ (hw _ (List.mem_of_getElem? (i := 8) rfl)) e30 (g := (mkF m 69 #[.val (.int i0), .val (.int i1), .val (.int i2), .val (.int i3), .val (.int i4), .val (.int (2 : Int32)), .val (.int cc_3), .val (.int cc_4), .val (.int cc_5), .val (.int cc_6), .unset, .unset, .unset] [(.int (2 : Int32)), (.ref b30), (.ref b30)])) rfl (hb hby at_69) rfl (by decide) (cap := 2) (by decide) (by decide) (by decide) (by decide)
    obtain ⟨b31, g31⟩ : ∃ z, z = h30.size := ⟨_, rfl⟩
    rw [← g31] at A31 st31
    refine own_go st31 ?_
    have le_31 : h30.size ≤ h31.size := E31.1
    have lt_b31 : b31 < h31.size := A31.lt
    have V_b31 : Arv Z h31 b31 k31 .char (2 : Int32) [(.int (0 : Int32)), (.int (0 : Int32))] (.int (0 : Int32)) := (Arv.new A31 (by decide)).pad (pad_rep [] (.int (0 : Int32)) 2)
    have K31 : Keep h0 h31 [] := Keep.ext K30 E31
    refine own_go (fun _ => XS.dup X31.here hx rfl (hb hby at_71) rfl rfl) ?_
    refine own_go (fun _ => XS.iconst X31.here hx rfl (hb hby at_72)) ?_
    show ∃ t o, Steps p.tables e below (T31.setTop (mkF m 73 #[.val (.int i0), .val (.int i1), .val (.int i2), .val (.int i3), .val (.int i4), .val (.int (2 : Int32)), .val (.int cc_3), .val (.int cc_4), .val (.int cc_5), .val (.int cc_6), .unset, .unset, .unset] [(.int (0 : Int32)), (.ref b31), (.ref b31), (.ref b30), (.ref b30)])) t ∧ _
    refine own_go (fun _ => XS.iload X31.here hx rfl (hb hby at_73) rfl) ?_
    obtain ⟨cl32, Ar32, q32, S32, N32, H32, G32⟩ := id V_b31
    have hin32 : ¬ ((0 : Int32) < 0 ∨ cl32.slots.size ≤ ((0 : Int32)).toNatClampNeg) := inb_of S32 ⟨by decide, by decide⟩
    obtain ⟨T33, h33, X33, e33, W33, st33⟩ := stC X31 hx hZ e31 Ar32 (j := (0 : Int32)) hin32 (g := (mkF m 75 #[.val (.int i0), .val (.int i1), .val (.int i2), .val (.int i3), .val (.int i4), .val (.int (2 : Int32)), .val (.int cc_3), .val (.int cc_4), .val (.int cc_5), .val (.int cc_6), .unset, .unset, .unset] [(.int cc_3), (.int (0 : Int32)), (.ref b31), (.ref b31), (.ref b30), (.ref b30)])) rfl rfl (hb hby at_75)
    refine own_go st33 ?_
    have ge34 : n0 ≤ b31 := by omega
    have le_33 : h31.size ≤ h33.size := Nat.le_of_eq W33.size.symm
    have sz35 : h0.size ≤ b31 := by omega
    have K33 : Keep h0 h33 [] := Keep.wr K31 W33 (Or.inr sz35)
    have N33 := Fr.snoc X33 N6 ge34
    have V33 : Arv Z h33 b31 k31 .char (2 : Int32) [(.int (nar .char cc_3)), (.int (0 : Int32))] (.int (0 : Int32)) := Arv.set Ar32 q32 S32 N32 H32 G32 (fits_nar_char _) W33 0 rfl (Nat.le_of_ble_eq_true rfl)
    refine own_go (fun _ => XS.dup X33.here hx rfl (hb hby at_76) rfl rfl) ?_
    show ∃ t o, Steps p.tables e below (T33.setTop (mkF m 77 #[.val (.int i0), .val (.int i1), .val (.int i2), .val (.int i3), .val (.int i4), .val (.int (2 : Int32)), .val (.int cc_3), .val (.int cc_4), .val (.int cc_5), .val (.int cc_6), .unset, .unset, .unset] [(.ref b31), (.ref b31), (.ref b30), (.ref b30)])) t ∧ _
    refine own_go (fun _ => XS.iconst X33.here hx rfl (hb hby at_77)) ?_
    refine own_go (fun _ => XS.iload X33.here hx rfl (hb hby at_78) rfl) ?_
    obtain ⟨cl36, Ar36, q36, S36, N36, H36, G36⟩ := id V33
    have hin36 : ¬ ((1 : Int32) < 0 ∨ cl36.slots.size ≤ ((1 : Int32)).toNatClampNeg) := inb_of S36 ⟨by decide, by decide⟩
    obtain ⟨T37, h37, X37, e37, W37, st37⟩ := stC X33 hx hZ e33 Ar36 (j := (1 : Int32)) hin36 (g := (mkF m 80 #[.val (.int i0), .val (.int i1), .val (.int i2), .val (.int i3), .val (.int i4), .val (.int (2 : Int32)), .val (.int cc_3), .val (.int cc_4), .val (.int cc_5), .val (.int cc_6), .unset, .unset, .unset] [(.int cc_4), (.int (1 : Int32)), (.ref b31), (.ref b31), (.ref b30), (.ref b30)])) rfl rfl (hb hby at_80)
    refine own_go st37 ?_
    have le_37 : h33.size ≤ h37.size := Nat.le_of_eq W37.size.symm
    have K37 : Keep h0 h37 [] := Keep.wr K33 W37 (Or.inr sz35)
    have N37 := Fr.snoc X37 N33 ge34
    have V37 : Arv Z h37 b31 k31 .char (2 : Int32) [(.int (nar .char cc_3)), (.int (nar .char cc_4))] (.int (0 : Int32)) := Arv.set Ar36 q36 S36 N36 H36 G36 (fits_nar_char _) W37 1 rfl (Nat.le_of_ble_eq_true rfl)
    show ∃ t o, Steps p.tables e below (T37.setTop (mkF m 81 #[.val (.int i0), .val (.int i1), .val (.int i2), .val (.int i3), .val (.int i4), .val (.int (2 : Int32)), .val (.int cc_3), .val (.int cc_4), .val (.int cc_5), .val (.int cc_6), .unset, .unset, .unset] [(.ref b31), (.ref b30), (.ref b30)])) t ∧ _
    have hws : ∀ d ∈ StrChars.Road.words, d.before a0 Z = true := fun d hd => hw d ((by decide +kernel : ∀ d ∈ StrChars.Road.words, d ∈ tables_1) d hd)
    have hp38 : ∀ c ∈ ([(nar .char cc_3), (nar .char cc_4)] : List Int32), ¬ c < 0 ∧ ¬ (255 : Int32) < c := (own_allS (own_okrg (own_okn H3_0)) (own_allS (own_okrg (own_okn H4_0)) own_all0))
    have F39 : Exa Z h37 b30 "java/lang/String" := (Exa.wr W37 (Exa.wr W33 (Exa.ext E31 A30)))
    have ne40 : b30 ≠ b31 := own_ne (by omega)
    have F41 : Fld Z h37 b30 "java/lang/String" "value" "[B" .null := (Fld.other W37 (Fld.other W33 (Fld.ext E31 F_value_b30) (Or.inl ne40)) (Or.inl ne40))
    have F42 : Fld Z h37 b30 "java/lang/String" "coder" "B" (.int (0 : Int32)) := (Fld.other W37 (Fld.other W33 (Fld.ext E31 F_coder_b30) (Or.inl ne40)) (Or.inl ne40))
    have F43 : Old Z n0 h37 := (Old.wr (Old.wr ((OLD.ext E30).ext E31) W33 ge34) W37 ge34)
    have zl44 : n0 ≤ h37.size := by omega
    have ge45 : n0 ≤ b30 := by omega
    obtain ⟨_, _, ⟨T38, L38, k38, n38⟩, -, X38, ⟨Lc38, hQ38, l38, y38, z38⟩, st38⟩ := X37.specialBack hx (y := (⟨"java/lang/String", "<init>", "([C)V"⟩ : MethodName)) rfl hown (mvT hZ (hw _ (List.mem_of_getElem? (i := 9) rfl))) (mvT hZ (hw _ (List.mem_of_getElem? (i := 10) rfl))) (mvT hZ (hw _ (List.mem_of_getElem? (i := 11) rfl))) (by decide) (StrChars.Road.backV (W := 1) hZ hws (kI := 4) (hw _ (List.mem_of_getElem? (i := 6) rfl)) (cs := ([(nar .char cc_3), (nar .char cc_4)] : List Int32)) (bs := (([(nar .char cc_3), (nar .char cc_4)] : List Int32)).map (fun c => c.toInt8.toInt32)) (n := 2) ge45 zl44 F39 F41 F42 V37 (Sta.ext F43.2 P1) hzc rfl rfl (by decide) (by decide) hp38 rfl (by decide) (by decide)) (g := (mkF m 81 #[.val (.int i0), .val (.int i1), .val (.int i2), .val (.int i3), .val (.int i4), .val (.int (2 : Int32)), .val (.int cc_3), .val (.int cc_4), .val (.int cc_5), .val (.int cc_6), .unset, .unset, .unset] [(.ref b31), (.ref b30), (.ref b30)])) rfl (by rw [hml]; rfl) (Steps.refl _) (a := b30) (argsL := [(.ref b31)]) (rest := [(.ref b30)]) (lenOf pd__28_5bC_29V rfl) rfl (by show 2 * 0 + _ ≤ _; exact Nat.le_of_eq rfl) (hb hby at_81) (fun _ _ => ⟨rfl, e37, (by decide : 2 + 1 ≤ _), (by decide : 6 + 2 ≤ _)⟩)
    dsimp only [Pt.U, Pt.locs, Pt.cells, Pt.slots] at X38 l38 y38 z38 st38 hQ38
    subst l38 y38 z38
    obtain ⟨rfl, Nq38, Kp38, G38_0, G38_1, t38, kb38, u38_1, u38_2, u38_3, G38_2, G38_3⟩ := hQ38
    have N38 := Fr.app N37 Nq38
    refine own_goT st38 ?_
    have le_38 : h37.size ≤ T38.heap.size := Kp38.1
    have sz46 : h0.size ≤ b30 := by omega
    have K38 : Keep h0 T38.heap [] := Keep.trans K37 Kp38 (allS (Or.inr sz46) all0)
    have G38_4 : Arv Z T38.heap t38 kb38 .byte (2 : Int32) [(.int ((nar .char cc_3).toInt8.toInt32)), (.int ((nar .char cc_4).toInt8.toInt32))] (.int (0 : Int32)) := G38_3
    have lt_t38 : (t38 : Nat) < T38.heap.size := G38_3.lt
    refine own_go (fun _ => XS.astore X38.here hx rfl (hb hby at_84) rfl rfl (l' := #[.val (.int i0), .val (.int i1), .val (.int i2), .val (.int i3), .val (.int i4), .val (.int (2 : Int32)), .val (.int cc_3), .val (.int cc_4), .val (.int cc_5), .val (.int cc_6), .val (.ref b30), .unset, .unset]) rfl) ?_
    refine own_go (fun _ => XS.goto X38.here hx rfl (pc0 := 86) (pc' := 157) rfl (hb hby at_86) (by decide) (by decide)) ?_
    show ∃ t o, Steps p.tables e below (T38.setTop (mkF m 157 #[.val (.int i0), .val (.int i1), .val (.int i2), .val (.int i3), .val (.int i4), .val (.int (2 : Int32)), .val (.int cc_3), .val (.int cc_4), .val (.int cc_5), .val (.int cc_6), .val (.ref b30), .unset, .unset] [])) t ∧ _
    refine own_go (fun _ => XS.aload X38.here hx rfl (hb hby at_157) rfl rfl) ?_
    show ∃ t o, Steps p.tables e below (T38.setTop (mkF m 159 #[.val (.int i0), .val (.int i1), .val (.int i2), .val (.int i3), .val (.int i4), .val (.int (2 : Int32)), .val (.int cc_3), .val (.int cc_4), .val (.int cc_5), .val (.int cc_6), .val (.ref b30), .unset, .unset] [(.ref b30)])) t ∧ _
    have F47 : Old Z n0 T38.heap := (Old.keep F43 Kp38 (allS ge45 all0))
    have zl48 : n0 ≤ T38.heap.size := by omega
    obtain ⟨_, _, ⟨T49, L49, k49, n49⟩, -, X49, hSn49, hgn49, ⟨Lc49, hQ49, l49, y49, z49⟩, st49⟩ := callSS X38 hx (y := (⟨"com/example/libtardy/libtardy/QueueName", "of", "(Ljava/lang/String;)Lcom/example/libtardy/libtardy/QueueName;"⟩ : MethodName)) hown (mvT hZ (hw _ (List.mem_of_getElem? (i := 35) rfl))) (mvT hZ (hw _ (List.mem_of_getElem? (i := 36) rfl))) (mvT hZ (hw _ (List.mem_of_getElem? (i := 37) rfl))) (mvT hZ (hw _ (List.mem_of_getElem? (i := 38) rfl))) (by decide) (backOfS (W := 0) (rmOf2 l Z a0 hw [] b30 t38 kb38 (nar .char cc_3) (nar .char cc_4) zc gv T38.heap n0 zl48 G38_0 G38_2 G38_1 G38_4 F47 P1 P2 hzc hgv (own_okn H3_0 : own_ok (nar .char cc_3)) (own_okn H4_0 : own_ok (nar .char cc_4))) hZ (hw _ (List.mem_of_getElem? (i := 38) rfl)) (hw _ (List.mem_of_getElem? (i := 37) rfl)) (by decide) (by decide)) (g := (mkF m 159 #[.val (.int i0), .val (.int i1), .val (.int i2), .val (.int i3), .val (.int i4), .val (.int (2 : Int32)), .val (.int cc_3), .val (.int cc_4), .val (.int cc_5), .val (.int cc_6), .val (.ref b30), .unset, .unset] [(.ref b30)])) rfl (by rw [hml]; rfl) (argsL := [(.ref b30)]) (rest := []) (lenOf pd_h60344592 rfl) rfl (by show 2 * 0 + _ ≤ _; exact Nat.le_of_eq rfl) (hb hby at_159) (fun _ _ => ⟨rfl, rfl, (by decide : 3 + 3 ≤ _), (by decide : 8 + 21 ≤ _)⟩)
    dsimp only [Pt.U, Pt.locs, Pt.cells, Pt.slots] at X49 l49 y49 z49 st49 hQ49 hSn49 hgn49
    subst l49 y49 z49
    have hZ : Z.Warmed39 (s.setVm T49.vm).vm := State.Warmed39.trans (t := s.setVm s.vm) hZ hSn49.1
    have hown : (s.setVm T49.vm).vm.findClass "com/example/libtardy/libtardy/QueueNameOfPinLaw" = some m.cls := by rw [show (s.setVm T49.vm).vm = T49.vm from rfl, hSn49.1.alike.findClass]; exact hown
    have hS : s.Since T49.vm T49.heap.size := foldS (T := T38) hS (Nat.zero_le _) hSn49 hgn49
    have X49 : Stand p l e _ (s.setVm T49.vm) m _ below meth c T49 _ _ _ := X49
    obtain ⟨b_49, rfl, Nq49, Kp49, G49_0, G49_1⟩ := hQ49
    have N49 := Fr.app N38 Nq49
    refine own_goT st49 ?_
    have le_49 : T38.heap.size ≤ T49.heap.size := Kp49.1
    have K49 : Keep h0 T49.heap [] := Keep.trans K38 Kp49 all0
    have lt_b_49 : b_49 < T49.heap.size := (G49_0).lt
    refine own_go (fun _ => XS.astore X49.here hx rfl (hb hby at_162) rfl rfl (l' := #[.val (.int i0), .val (.int i1), .val (.int i2), .val (.int i3), .val (.int i4), .val (.int (2 : Int32)), .val (.int cc_3), .val (.int cc_4), .val (.int cc_5), .val (.int cc_6), .val (.ref b30), .val (.ref b_49), .unset]) rfl) ?_
    refine own_go (fun _ => XS.aload X49.here hx rfl (hb hby at_164) rfl rfl) ?_
    show ∃ t o, Steps p.tables e below (T49.setTop (mkF m 166 #[.val (.int i0), .val (.int i1), .val (.int i2), .val (.int i3), .val (.int i4), .val (.int (2 : Int32)), .val (.int cc_3), .val (.int cc_4), .val (.int cc_5), .val (.int cc_6), .val (.ref b30), .val (.ref b_49), .unset] [(.ref b_49)])) t ∧ _
    refine own_go (fun _ => XS.ifnonnullYes X49.here hx rfl (pc0 := 166) (pc' := 171) rfl (hb hby at_166) rfl (by decide) (by decide)) ?_
    refine own_go (fun _ => XS.aload X49.here hx rfl (hb hby at_171) rfl rfl) ?_
    show ∃ t o, Steps p.tables e below (T49.setTop (mkF m 173 #[.val (.int i0), .val (.int i1), .val (.int i2), .val (.int i3), .val (.int i4), .val (.int (2 : Int32)), .val (.int cc_3), .val (.int cc_4), .val (.int cc_5), .val (.int cc_6), .val (.ref b30), .val (.ref b_49), .unset] [(.ref b_49)])) t ∧ _
    have F50 : Old Z n0 T49.heap := (Old.keep F47 Kp49 all0)
    have zl51 : n0 ≤ T49.heap.size := by omega
    obtain ⟨cq52, kq52, q52a, q52b, q52c⟩ := isOf hZ rfl G49_0
    obtain ⟨_, _, ⟨T52, L52, k52, n52⟩, -, X52, ⟨Lc52, hQ52, l52, y52, z52⟩, st52⟩ := X49.virtualBack hx (y := (⟨"com/example/libtardy/libtardy/QueueName", "toString", "()Ljava/lang/String;"⟩ : MethodName)) (z := (⟨"com/example/libtardy/libtardy/QueueName", "toString", "()Ljava/lang/String;"⟩ : MethodName)) hown (mvT hZ (hw _ (List.mem_of_getElem? (i := 94) rfl))) (mvT hZ (hw _ (List.mem_of_getElem? (i := 95) rfl))) (notFace_of_selects (args := #[]) (mvT hZ (hw _ (List.mem_of_getElem? (i := 97) rfl)))) (mvT hZ (hw _ (List.mem_of_getElem? (i := 97) rfl))) (mvT hZ (hw _ (List.mem_of_getElem? (i := 96) rfl))) (by decide) (backOf (W := 0) (rmTos l Z a0 hw [] b_49 b30 T49.heap n0 zl51 G49_1 F50) hZ (hw _ (List.mem_of_getElem? (i := 98) rfl)) (hw _ (List.mem_of_getElem? (i := 37) rfl)) (by decide) (by decide)) q52a q52c (g := (mkF m 173 #[.val (.int i0), .val (.int i1), .val (.int i2), .val (.int i3), .val (.int i4), .val (.int (2 : Int32)), .val (.int cc_3), .val (.int cc_4), .val (.int cc_5), .val (.int cc_6), .val (.ref b30), .val (.ref b_49), .unset] [(.ref b_49)])) rfl (by rw [hml]; rfl) (Steps.refl _) (argsL := []) (rest := []) (lenOf pd__28_29Ljava_2flang_2fString_3b rfl) rfl (by show 2 * 0 + _ ≤ _; exact Nat.le_of_eq rfl) (hb hby at_173) (fun _ _ => ⟨rfl, rfl, (by decide : 6 + 0 ≤ _), (by decide : 29 + 0 ≤ _)⟩)
    dsimp only [Pt.U, Pt.locs, Pt.cells, Pt.slots] at X52 l52 y52 z52 st52 hQ52
    subst l52 y52 z52
    obtain ⟨rfl, Nq52, e52⟩ := hQ52
    have N52 := Fr.app N49 Nq52
    refine own_goT st52 ?_
    refine own_go (fun _ => XS.astore X52.here hx rfl (hb hby at_176) rfl rfl (l' := #[.val (.int i0), .val (.int i1), .val (.int i2), .val (.int i3), .val (.int i4), .val (.int (2 : Int32)), .val (.int cc_3), .val (.int cc_4), .val (.int cc_5), .val (.int cc_6), .val (.ref b30), .val (.ref b_49), .val (.ref b30)]) rfl) ?_
    refine own_go (fun _ => XS.aload X52.here hx rfl (hb hby at_178) rfl rfl) ?_
    show ∃ t o, Steps p.tables e below (T52.setTop (mkF m 180 #[.val (.int i0), .val (.int i1), .val (.int i2), .val (.int i3), .val (.int i4), .val (.int (2 : Int32)), .val (.int cc_3), .val (.int cc_4), .val (.int cc_5), .val (.int cc_6), .val (.ref b30), .val (.ref b_49), .val (.ref b30)] [(.ref b30)])) t ∧ _
    refine own_go (fun _ => XS.ifnonnullYes X52.here hx rfl (pc0 := 180) (pc' := 185) rfl (hb hby at_180) rfl (by decide) (by decide)) ?_
    refine own_go (fun _ => XS.aload X52.here hx rfl (hb hby at_185) rfl rfl) ?_
    refine own_go (fun _ => XS.aload X52.here hx rfl (hb hby at_187) rfl rfl) ?_
    show ∃ t o, Steps p.tables e below (T52.setTop (mkF m 189 #[.val (.int i0), .val (.int i1), .val (.int i2), .val (.int i3), .val (.int i4), .val (.int (2 : Int32)), .val (.int cc_3), .val (.int cc_4), .val (.int cc_5), .val (.int cc_6), .val (.ref b30), .val (.ref b_49), .val (.ref b30)] [(.ref b30), (.ref b30)])) t ∧ _
    have F53 : Exa Z T49.heap b30 "java/lang/String" := (Exa.keep G38_0 Kp49)
    obtain ⟨cq54, kq54, q54a, q54b, q54c⟩ := isOf hZ e52 F53
    obtain ⟨_, _, ⟨T54, L54, k54, n54⟩, -, X54, ⟨Lc54, hQ54, l54, y54, z54⟩, st54⟩ := X52.virtualBack hx (y := (⟨"java/lang/String", "equals", "(Ljava/lang/Object;)Z"⟩ : MethodName)) (z := (⟨"java/lang/String", "equals", "(Ljava/lang/Object;)Z"⟩ : MethodName)) hown (mvT hZ (hw _ (List.mem_of_getElem? (i := 99) rfl))) (mvT hZ (hw _ (List.mem_of_getElem? (i := 100) rfl))) (notFace_of_selects (args := #[]) (mvT hZ (hw _ (List.mem_of_getElem? (i := 102) rfl)))) (mvT hZ (hw _ (List.mem_of_getElem? (i := 102) rfl))) (mvT hZ (hw _ (List.mem_of_getElem? (i := 101) rfl))) (by decide) (backOf (W := 0) (rmEq l Z a0 hw [] b30 T49.heap n0 zl51 F50) hZ (hw _ (List.mem_of_getElem? (i := 103) rfl)) (hw _ (List.mem_of_getElem? (i := 7) rfl)) (by decide) (by decide)) q54a q54c (g := (mkF m 189 #[.val (.int i0), .val (.int i1), .val (.int i2), .val (.int i3), .val (.int i4), .val (.int (2 : Int32)), .val (.int cc_3), .val (.int cc_4), .val (.int cc_5), .val (.int cc_6), .val (.ref b30), .val (.ref b_49), .val (.ref b30)] [(.ref b30), (.ref b30)])) rfl (by rw [hml]; rfl) (Steps.refl _) (argsL := [(.ref b30)]) (rest := []) (lenOf pd__28Ljava_2flang_2fObject_3b_29Z rfl) rfl (by show 2 * 0 + _ ≤ _; exact Nat.le_of_eq rfl) (hb hby at_189) (fun _ _ => ⟨rfl, e52, (by decide : 6 + 0 ≤ _), (by decide : 29 + 0 ≤ _)⟩)
    dsimp only [Pt.U, Pt.locs, Pt.cells, Pt.slots] at X54 l54 y54 z54 st54 hQ54
    subst l54 y54 z54
    obtain ⟨rfl, Nq54, e54⟩ := hQ54
    have N54 := Fr.app N52 Nq54
    refine own_goT st54 ?_
    show ∃ t o, Steps p.tables e below (T54.setTop (mkF m 192 #[.val (.int i0), .val (.int i1), .val (.int i2), .val (.int i3), .val (.int i4), .val (.int (2 : Int32)), .val (.int cc_3), .val (.int cc_4), .val (.int cc_5), .val (.int cc_6), .val (.ref b30), .val (.ref b_49), .val (.ref b30)] [(.int (1 : Int32))])) t ∧ _
    obtain ⟨fs, hr, hrun, hended, hW⟩ := Jvm.Stand.leaveW X54 hS (by rw [e54]; omega) (v := some (.int (1 : Int32))) (fun h => by rw [Bd.returns] at h; cases h)
    refine ⟨_, _, ?_, hrun, hended, _, _, rfl, ?_, ⟨hW.1, hW.2.1, hW.2.2.1, hW.2.2.2.mono (by decide) (by decide)⟩⟩
    · exact retN X54 hx (t := .boolean) Bd.returns (by simp) (hb hby at_192) hr
    · show Q_rm0 Z _ _ _ _ _ _ _ h0 n0 _ T54.heap _
      rw [e54]
      exact ⟨rfl, N54, K49⟩
  · rw [hk]
    refine own_go (fun _ => XS.iload X6.here hx rfl (hb hby at_32) rfl) ?_
    show ∃ t o, Steps p.tables e below (T6.setTop (mkF m 34 #[.val (.int i0), .val (.int i1), .val (.int i2), .val (.int i3), .val (.int i4), .val (.int (3 : Int32)), .val (.int cc_3), .val (.int cc_4), .val (.int cc_5), .val (.int cc_6), .unset, .unset, .unset] [(.int (3 : Int32))])) t ∧ _
    refine own_go (fun _ => XS.iconst X6.here hx rfl (hb hby at_34)) ?_
    show ∃ t o, Steps p.tables e below (T6.setTop (mkF m 35 #[.val (.int i0), .val (.int i1), .val (.int i2), .val (.int i3), .val (.int i4), .val (.int (3 : Int32)), .val (.int cc_3), .val (.int cc_4), .val (.int cc_5), .val (.int cc_6), .unset, .unset, .unset] [(.int (1 : Int32)), (.int (3 : Int32))])) t ∧ _
    refine own_go (fun _ => XS.icmpYes X6.here hx rfl (pc0 := 35) (pc' := 58) rfl (hb hby at_35) rfl (feq (by decide : ¬ ((3 : Int32) = (1 : Int32)))).2 (by decide) (by decide)) ?_
    refine own_go (fun _ => XS.iload X6.here hx rfl (hb hby at_58) rfl) ?_
    refine own_go (fun _ => XS.iconst X6.here hx rfl (hb hby at_60)) ?_
    show ∃ t o, Steps p.tables e below (T6.setTop (mkF m 61 #[.val (.int i0), .val (.int i1), .val (.int i2), .val (.int i3), .val (.int i4), .val (.int (3 : Int32)), .val (.int cc_3), .val (.int cc_4), .val (.int cc_5), .val (.int cc_6), .unset, .unset, .unset] [(.int (2 : Int32)), (.int (3 : Int32))])) t ∧ _
    refine own_go (fun _ => XS.icmpYes X6.here hx rfl (pc0 := 61) (pc' := 89) rfl (hb hby at_61) rfl (feq (by decide : ¬ ((3 : Int32) = (2 : Int32)))).2 (by decide) (by decide)) ?_
    refine own_go (fun _ => XS.iload X6.here hx rfl (hb hby at_89) rfl) ?_
    refine own_go (fun _ => XS.iconst X6.here hx rfl (hb hby at_91)) ?_
    show ∃ t o, Steps p.tables e below (T6.setTop (mkF m 92 #[.val (.int i0), .val (.int i1), .val (.int i2), .val (.int i3), .val (.int i4), .val (.int (3 : Int32)), .val (.int cc_3), .val (.int cc_4), .val (.int cc_5), .val (.int cc_6), .unset, .unset, .unset] [(.int (3 : Int32)), (.int (3 : Int32))])) t ∧ _
    refine own_go (fun _ => XS.icmpNo X6.here hx rfl (hb hby at_92) rfl (teq (by decide : (3 : Int32) = (3 : Int32))).2) ?_
    show ∃ t o, Steps p.tables e below (T6.setTop (mkF m 95 #[.val (.int i0), .val (.int i1), .val (.int i2), .val (.int i3), .val (.int i4), .val (.int (3 : Int32)), .val (.int cc_3), .val (.int cc_4), .val (.int cc_5), .val (.int cc_6), .unset, .unset, .unset] [])) t ∧ _
    obtain ⟨T55, h55, X55, e55, E55, A55, D55, -, st55⟩ := newO X6 hx hZ hown (hw _ (List.mem_of_getElem? (i := 5) rfl)) (hw _ (List.mem_of_getElem? (i := 6) rfl)) (hw _ (List.mem_of_getElem? (i := 7) rfl)) e6 (g := (mkF m 95 #[.val (.int i0), .val (.int i1), .val (.int i2), .val (.int i3), .val (.int i4), .val (.int (3 : Int32)), .val (.int cc_3), .val (.int cc_4), .val (.int cc_5), .val (.int cc_6), .unset, .unset, .unset] [])) rfl (hb hby at_95) (by decide) (by decide)
    obtain ⟨b55, g55⟩ : ∃ z, z = h0.size := ⟨_, rfl⟩
    rw [← g55] at A55 D55 st55
    refine own_go st55 ?_
    have le_55 : h0.size ≤ h55.size := E55.1
    have lt_b55 : b55 < h55.size := A55.lt
    have F_coder_b55 : Fld Z h55 b55 "java/lang/String" "coder" "B" (.int (0 : Int32)) := D55 (Or.inr (hw _ (List.mem_of_getElem? (i := 32) rfl))) (ty := .byte) (by decide)
    have F_value_b55 : Fld Z h55 b55 "java/lang/String" "value" "[B" .null := D55 (Or.inr (hw _ (List.mem_of_getElem? (i := 34) rfl))) (ty := (.array .byte)) (by decide)
    have K55 : Keep h0 h55 [] := Keep.ext (Keep.refl h0 []) E55
    refine own_go (fun _ => XS.dup X55.here hx rfl (hb hby at_98) rfl rfl) ?_
    refine own_go (fun _ => XS.iconst X55.here hx rfl (hb hby at_99)) ?_
    show ∃ t o, Steps p.tables e below (T55.setTop (mkF m 100 #[.val (.int i0), .val (.int i1), .val (.int i2), .val (.int i3), .val (.int i4), .val (.int (3 : Int32)), .val (.int cc_3), .val (.int cc_4), .val (.int cc_5), .val (.int cc_6), .unset, .unset, .unset] [(.int (3 : Int32)), (.ref b55), (.ref b55)])) t ∧ _
    obtain ⟨T56, h56, k56, X56, e56, E56, A56, st56⟩ := newP X55 hx hZ (hw _ (List.mem_of_getElem? (i := 8) rfl)) e55 (g := (mkF m 100 #[.val (.int i0), .val (.int i1), .val (.int i2), .val (.int i3), .val (.int i4), .val (.int (3 : Int32)), .val (.int cc_3), .val (.int cc_4), .val (.int cc_5), .val (.int cc_6), .unset, .unset, .unset] [(.int (3 : Int32)), (.ref b55), (.ref b55)])) rfl (hb hby at_100) rfl (by decide) (cap := 3) (by decide) (by decide) (by decide) (by decide)
    obtain ⟨b56, g56⟩ : ∃ z, z = h55.size := ⟨_, rfl⟩
    rw [← g56] at A56 st56
    refine own_go st56 ?_
    have le_56 : h55.size ≤ h56.size := E56.1
    have lt_b56 : b56 < h56.size := A56.lt
    have V_b56 : Arv Z h56 b56 k56 .char (3 : Int32) [(.int (0 : Int32)), (.int (0 : Int32)), (.int (0 : Int32))] (.int (0 : Int32)) := (Arv.new A56 (by decide)).pad (pad_rep [] (.int (0 : Int32)) 3)
    have K56 : Keep h0 h56 [] := Keep.ext K55 E56
    refine own_go (fun _ => XS.dup X56.here hx rfl (hb hby at_102) rfl rfl) ?_
    refine own_go (fun _ => XS.iconst X56.here hx rfl (hb hby at_103)) ?_
    show ∃ t o, Steps p.tables e below (T56.setTop (mkF m 104 #[.val (.int i0), .val (.int i1), .val (.int i2), .val (.int i3), .val (.int i4), .val (.int (3 : Int32)), .val (.int cc_3), .val (.int cc_4), .val (.int cc_5), .val (.int cc_6), .unset, .unset, .unset] [(.int (0 : Int32)), (.ref b56), (.ref b56), (.ref b55), (.ref b55)])) t ∧ _
    refine own_go (fun _ => XS.iload X56.here hx rfl (hb hby at_104) rfl) ?_
    obtain ⟨cl57, Ar57, q57, S57, N57, H57, G57⟩ := id V_b56
    have hin57 : ¬ ((0 : Int32) < 0 ∨ cl57.slots.size ≤ ((0 : Int32)).toNatClampNeg) := inb_of S57 ⟨by decide, by decide⟩
    obtain ⟨T58, h58, X58, e58, W58, st58⟩ := stC X56 hx hZ e56 Ar57 (j := (0 : Int32)) hin57 (g := (mkF m 106 #[.val (.int i0), .val (.int i1), .val (.int i2), .val (.int i3), .val (.int i4), .val (.int (3 : Int32)), .val (.int cc_3), .val (.int cc_4), .val (.int cc_5), .val (.int cc_6), .unset, .unset, .unset] [(.int cc_3), (.int (0 : Int32)), (.ref b56), (.ref b56), (.ref b55), (.ref b55)])) rfl rfl (hb hby at_106)
    refine own_go st58 ?_
    have ge59 : n0 ≤ b56 := by omega
    have le_58 : h56.size ≤ h58.size := Nat.le_of_eq W58.size.symm
    have sz60 : h0.size ≤ b56 := by omega
    have K58 : Keep h0 h58 [] := Keep.wr K56 W58 (Or.inr sz60)
    have N58 := Fr.snoc X58 N6 ge59
    have V58 : Arv Z h58 b56 k56 .char (3 : Int32) [(.int (nar .char cc_3)), (.int (0 : Int32)), (.int (0 : Int32))] (.int (0 : Int32)) := Arv.set Ar57 q57 S57 N57 H57 G57 (fits_nar_char _) W58 0 rfl (Nat.le_of_ble_eq_true rfl)
    refine own_go (fun _ => XS.dup X58.here hx rfl (hb hby at_107) rfl rfl) ?_
    show ∃ t o, Steps p.tables e below (T58.setTop (mkF m 108 #[.val (.int i0), .val (.int i1), .val (.int i2), .val (.int i3), .val (.int i4), .val (.int (3 : Int32)), .val (.int cc_3), .val (.int cc_4), .val (.int cc_5), .val (.int cc_6), .unset, .unset, .unset] [(.ref b56), (.ref b56), (.ref b55), (.ref b55)])) t ∧ _
    refine own_go (fun _ => XS.iconst X58.here hx rfl (hb hby at_108)) ?_
    refine own_go (fun _ => XS.iload X58.here hx rfl (hb hby at_109) rfl) ?_
    obtain ⟨cl61, Ar61, q61, S61, N61, H61, G61⟩ := id V58
    have hin61 : ¬ ((1 : Int32) < 0 ∨ cl61.slots.size ≤ ((1 : Int32)).toNatClampNeg) := inb_of S61 ⟨by decide, by decide⟩
    obtain ⟨T62, h62, X62, e62, W62, st62⟩ := stC X58 hx hZ e58 Ar61 (j := (1 : Int32)) hin61 (g := (mkF m 111 #[.val (.int i0), .val (.int i1), .val (.int i2), .val (.int i3), .val (.int i4), .val (.int (3 : Int32)), .val (.int cc_3), .val (.int cc_4), .val (.int cc_5), .val (.int cc_6), .unset, .unset, .unset] [(.int cc_4), (.int (1 : Int32)), (.ref b56), (.ref b56), (.ref b55), (.ref b55)])) rfl rfl (hb hby at_111)
    refine own_go st62 ?_
    have le_62 : h58.size ≤ h62.size := Nat.le_of_eq W62.size.symm
    have K62 : Keep h0 h62 [] := Keep.wr K58 W62 (Or.inr sz60)
    have N62 := Fr.snoc X62 N58 ge59
    have V62 : Arv Z h62 b56 k56 .char (3 : Int32) [(.int (nar .char cc_3)), (.int (nar .char cc_4)), (.int (0 : Int32))] (.int (0 : Int32)) := Arv.set Ar61 q61 S61 N61 H61 G61 (fits_nar_char _) W62 1 rfl (Nat.le_of_ble_eq_true rfl)
    show ∃ t o, Steps p.tables e below (T62.setTop (mkF m 112 #[.val (.int i0), .val (.int i1), .val (.int i2), .val (.int i3), .val (.int i4), .val (.int (3 : Int32)), .val (.int cc_3), .val (.int cc_4), .val (.int cc_5), .val (.int cc_6), .unset, .unset, .unset] [(.ref b56), (.ref b55), (.ref b55)])) t ∧ _
    refine own_go (fun _ => XS.dup X62.here hx rfl (hb hby at_112) rfl rfl) ?_
    refine own_go (fun _ => XS.iconst X62.here hx rfl (hb hby at_113)) ?_
    refine own_go (fun _ => XS.iload X62.here hx rfl (hb hby at_114) rfl) ?_
    show ∃ t o, Steps p.tables e below (T62.setTop (mkF m 116 #[.val (.int i0), .val (.int i1), .val (.int i2), .val (.int i3), .val (.int i4), .val (.int (3 : Int32)), .val (.int cc_3), .val (.int cc_4), .val (.int cc_5), .val (.int cc_6), .unset, .unset, .unset] [(.int cc_5), (.int (2 : Int32)), (.ref b56), (.ref b56), (.ref b55), (.ref b55)])) t ∧ _
    obtain ⟨cl63, Ar63, q63, S63, N63, H63, G63⟩ := id V62
    have hin63 : ¬ ((2 : Int32) < 0 ∨ cl63.slots.size ≤ ((2 : Int32)).toNatClampNeg) := inb_of S63 ⟨by decide, by decide⟩
    obtain ⟨T64, h64, X64, e64, W64, st64⟩ := stC X62 hx hZ e62 Ar63 (j := (2 : Int32)) hin63 (g := (mkF m 116 #[.val (.int i0), .val (.int i1), .val (.int i2), .val (.int i3), .val (.int i4), .val (.int (3 : Int32)), .val (.int cc_3), .val (.int cc_4), .val (.int cc_5), .val (.int cc_6), .unset, .unset, .unset] [(.int cc_5), (.int (2 : Int32)), (.ref b56), (.ref b56), (.ref b55), (.ref b55)])) rfl rfl (hb hby at_116)
    refine own_go st64 ?_
    have le_64 : h62.size ≤ h64.size := Nat.le_of_eq W64.size.symm
    have K64 : Keep h0 h64 [] := Keep.wr K62 W64 (Or.inr sz60)
    have N64 := Fr.snoc X64 N62 ge59
    have V64 : Arv Z h64 b56 k56 .char (3 : Int32) [(.int (nar .char cc_3)), (.int (nar .char cc_4)), (.int (nar .char cc_5))] (.int (0 : Int32)) := Arv.set Ar63 q63 S63 N63 H63 G63 (fits_nar_char _) W64 2 rfl (Nat.le_of_ble_eq_true rfl)
    show ∃ t o, Steps p.tables e below (T64.setTop (mkF m 117 #[.val (.int i0), .val (.int i1), .val (.int i2), .val (.int i3), .val (.int i4), .val (.int (3 : Int32)), .val (.int cc_3), .val (.int cc_4), .val (.int cc_5), .val (.int cc_6), .unset, .unset, .unset] [(.ref b56), (.ref b55), (.ref b55)])) t ∧ _
    have hws : ∀ d ∈ StrChars.Road.words, d.before a0 Z = true := fun d hd => hw d ((by decide +kernel : ∀ d ∈ StrChars.Road.words, d ∈ tables_1) d hd)
    have hp65 : ∀ c ∈ ([(nar .char cc_3), (nar .char cc_4), (nar .char cc_5)] : List Int32), ¬ c < 0 ∧ ¬ (255 : Int32) < c := (own_allS (own_okrg (own_okn H3_0)) (own_allS (own_okrg (own_okn H4_0)) (own_allS (own_okrg (own_okn H5_0)) own_all0)))
    have F66 : Exa Z h64 b55 "java/lang/String" := (Exa.wr W64 (Exa.wr W62 (Exa.wr W58 (Exa.ext E56 A55))))
    have ne67 : b55 ≠ b56 := own_ne (by omega)
    have F68 : Fld Z h64 b55 "java/lang/String" "value" "[B" .null := (Fld.other W64 (Fld.other W62 (Fld.other W58 (Fld.ext E56 F_value_b55) (Or.inl ne67)) (Or.inl ne67)) (Or.inl ne67))
    have F69 : Fld Z h64 b55 "java/lang/String" "coder" "B" (.int (0 : Int32)) := (Fld.other W64 (Fld.other W62 (Fld.other W58 (Fld.ext E56 F_coder_b55) (Or.inl ne67)) (Or.inl ne67)) (Or.inl ne67))
    have F70 : Old Z n0 h64 := (Old.wr (Old.wr (Old.wr ((OLD.ext E55).ext E56) W58 ge59) W62 ge59) W64 ge59)
    have zl71 : n0 ≤ h64.size := by omega
    have ge72 : n0 ≤ b55 := by omega
    obtain ⟨_, _, ⟨T65, L65, k65, n65⟩, -, X65, ⟨Lc65, hQ65, l65, y65, z65⟩, st65⟩ := X64.specialBack hx (y := (⟨"java/lang/String", "<init>", "([C)V"⟩ : MethodName)) rfl hown (mvT hZ (hw _ (List.mem_of_getElem? (i := 9) rfl))) (mvT hZ (hw _ (List.mem_of_getElem? (i := 10) rfl))) (mvT hZ (hw _ (List.mem_of_getElem? (i := 11) rfl))) (by decide) (StrChars.Road.backV (W := 1) hZ hws (kI := 4) (hw _ (List.mem_of_getElem? (i := 6) rfl)) (cs := ([(nar .char cc_3), (nar .char cc_4), (nar .char cc_5)] : List Int32)) (bs := (([(nar .char cc_3), (nar .char cc_4), (nar .char cc_5)] : List Int32)).map (fun c => c.toInt8.toInt32)) (n := 3) ge72 zl71 F66 F68 F69 V64 (Sta.ext F70.2 P1) hzc rfl rfl (by decide) (by decide) hp65 rfl (by decide) (by decide)) (g := (mkF m 117 #[.val (.int i0), .val (.int i1), .val (.int i2), .val (.int i3), .val (.int i4), .val (.int (3 : Int32)), .val (.int cc_3), .val (.int cc_4), .val (.int cc_5), .val (.int cc_6), .unset, .unset, .unset] [(.ref b56), (.ref b55), (.ref b55)])) rfl (by rw [hml]; rfl) (Steps.refl _) (a := b55) (argsL := [(.ref b56)]) (rest := [(.ref b55)]) (lenOf pd__28_5bC_29V rfl) rfl (by show 2 * 0 + _ ≤ _; exact Nat.le_of_eq rfl) (hb hby at_117) (fun _ _ => ⟨rfl, e64, (by decide : 2 + 1 ≤ _), (by decide : 7 + 3 ≤ _)⟩)
    dsimp only [Pt.U, Pt.locs, Pt.cells, Pt.slots] at X65 l65 y65 z65 st65 hQ65
    subst l65 y65 z65
    obtain ⟨rfl, Nq65, Kp65, G65_0, G65_1, t65, kb65, u65_1, u65_2, u65_3, G65_2, G65_3⟩ := hQ65
    have N65 := Fr.app N64 Nq65
    refine own_goT st65 ?_
    have le_65 : h64.size ≤ T65.heap.size := Kp65.1
    have sz73 : h0.size ≤ b55 := by omega
    have K65 : Keep h0 T65.heap [] := Keep.trans K64 Kp65 (allS (Or.inr sz73) all0)
    have G65_4 : Arv Z T65.heap t65 kb65 .byte (3 : Int32) [(.int ((nar .char cc_3).toInt8.toInt32)), (.int ((nar .char cc_4).toInt8.toInt32)), (.int ((nar .char cc_5).toInt8.toInt32))] (.int (0 : Int32)) := G65_3
    have lt_t65 : (t65 : Nat) < T65.heap.size := G65_3.lt
    refine own_go (fun _ => XS.astore X65.here hx rfl (hb hby at_120) rfl rfl (l' := #[.val (.int i0), .val (.int i1), .val (.int i2), .val (.int i3), .val (.int i4), .val (.int (3 : Int32)), .val (.int cc_3), .val (.int cc_4), .val (.int cc_5), .val (.int cc_6), .val (.ref b55), .unset, .unset]) rfl) ?_
    refine own_go (fun _ => XS.goto X65.here hx rfl (pc0 := 122) (pc' := 157) rfl (hb hby at_122) (by decide) (by decide)) ?_
    show ∃ t o, Steps p.tables e below (T65.setTop (mkF m 157 #[.val (.int i0), .val (.int i1), .val (.int i2), .val (.int i3), .val (.int i4), .val (.int (3 : Int32)), .val (.int cc_3), .val (.int cc_4), .val (.int cc_5), .val (.int cc_6), .val (.ref b55), .unset, .unset] [])) t ∧ _
    refine own_go (fun _ => XS.aload X65.here hx rfl (hb hby at_157) rfl rfl) ?_
    show ∃ t o, Steps p.tables e below (T65.setTop (mkF m 159 #[.val (.int i0), .val (.int i1), .val (.int i2), .val (.int i3), .val (.int i4), .val (.int (3 : Int32)), .val (.int cc_3), .val (.int cc_4), .val (.int cc_5), .val (.int cc_6), .val (.ref b55), .unset, .unset] [(.ref b55)])) t ∧ _
    have F74 : Old Z n0 T65.heap := (Old.keep F70 Kp65 (allS ge72 all0))
    have zl75 : n0 ≤ T65.heap.size := by omega
    obtain ⟨_, _, ⟨T76, L76, k76, n76⟩, -, X76, hSn76, hgn76, ⟨Lc76, hQ76, l76, y76, z76⟩, st76⟩ := callSS X65 hx (y := (⟨"com/example/libtardy/libtardy/QueueName", "of", "(Ljava/lang/String;)Lcom/example/libtardy/libtardy/QueueName;"⟩ : MethodName)) hown (mvT hZ (hw _ (List.mem_of_getElem? (i := 35) rfl))) (mvT hZ (hw _ (List.mem_of_getElem? (i := 36) rfl))) (mvT hZ (hw _ (List.mem_of_getElem? (i := 37) rfl))) (mvT hZ (hw _ (List.mem_of_getElem? (i := 38) rfl))) (by decide) (backOfS (W := 0) (rmOf3 l Z a0 hw [] b55 t65 kb65 (nar .char cc_3) (nar .char cc_4) (nar .char cc_5) zc gv T65.heap n0 zl75 G65_0 G65_2 G65_1 G65_4 F74 P1 P2 hzc hgv (own_okn H3_0 : own_ok (nar .char cc_3)) (own_okn H4_0 : own_ok (nar .char cc_4)) (own_okn H5_0 : own_ok (nar .char cc_5))) hZ (hw _ (List.mem_of_getElem? (i := 38) rfl)) (hw _ (List.mem_of_getElem? (i := 37) rfl)) (by decide) (by decide)) (g := (mkF m 159 #[.val (.int i0), .val (.int i1), .val (.int i2), .val (.int i3), .val (.int i4), .val (.int (3 : Int32)), .val (.int cc_3), .val (.int cc_4), .val (.int cc_5), .val (.int cc_6), .val (.ref b55), .unset, .unset] [(.ref b55)])) rfl (by rw [hml]; rfl) (argsL := [(.ref b55)]) (rest := []) (lenOf pd_h60344592 rfl) rfl (by show 2 * 0 + _ ≤ _; exact Nat.le_of_eq rfl) (hb hby at_159) (fun _ _ => ⟨rfl, rfl, (by decide : 3 + 3 ≤ _), (by decide : 10 + 21 ≤ _)⟩)
    dsimp only [Pt.U, Pt.locs, Pt.cells, Pt.slots] at X76 l76 y76 z76 st76 hQ76 hSn76 hgn76
    subst l76 y76 z76
    have hZ : Z.Warmed39 (s.setVm T76.vm).vm := State.Warmed39.trans (t := s.setVm s.vm) hZ hSn76.1
    have hown : (s.setVm T76.vm).vm.findClass "com/example/libtardy/libtardy/QueueNameOfPinLaw" = some m.cls := by rw [show (s.setVm T76.vm).vm = T76.vm from rfl, hSn76.1.alike.findClass]; exact hown
    have hS : s.Since T76.vm T76.heap.size := foldS (T := T65) hS (Nat.zero_le _) hSn76 hgn76
    have X76 : Stand p l e _ (s.setVm T76.vm) m _ below meth c T76 _ _ _ := X76
    obtain ⟨b_76, rfl, Nq76, Kp76, G76_0, G76_1⟩ := hQ76
    have N76 := Fr.app N65 Nq76
    refine own_goT st76 ?_
    have le_76 : T65.heap.size ≤ T76.heap.size := Kp76.1
    have K76 : Keep h0 T76.heap [] := Keep.trans K65 Kp76 all0
    have lt_b_76 : b_76 < T76.heap.size := (G76_0).lt
    refine own_go (fun _ => XS.astore X76.here hx rfl (hb hby at_162) rfl rfl (l' := #[.val (.int i0), .val (.int i1), .val (.int i2), .val (.int i3), .val (.int i4), .val (.int (3 : Int32)), .val (.int cc_3), .val (.int cc_4), .val (.int cc_5), .val (.int cc_6), .val (.ref b55), .val (.ref b_76), .unset]) rfl) ?_
    refine own_go (fun _ => XS.aload X76.here hx rfl (hb hby at_164) rfl rfl) ?_
    show ∃ t o, Steps p.tables e below (T76.setTop (mkF m 166 #[.val (.int i0), .val (.int i1), .val (.int i2), .val (.int i3), .val (.int i4), .val (.int (3 : Int32)), .val (.int cc_3), .val (.int cc_4), .val (.int cc_5), .val (.int cc_6), .val (.ref b55), .val (.ref b_76), .unset] [(.ref b_76)])) t ∧ _
    refine own_go (fun _ => XS.ifnonnullYes X76.here hx rfl (pc0 := 166) (pc' := 171) rfl (hb hby at_166) rfl (by decide) (by decide)) ?_
    refine own_go (fun _ => XS.aload X76.here hx rfl (hb hby at_171) rfl rfl) ?_
    show ∃ t o, Steps p.tables e below (T76.setTop (mkF m 173 #[.val (.int i0), .val (.int i1), .val (.int i2), .val (.int i3), .val (.int i4), .val (.int (3 : Int32)), .val (.int cc_3), .val (.int cc_4), .val (.int cc_5), .val (.int cc_6), .val (.ref b55), .val (.ref b_76), .unset] [(.ref b_76)])) t ∧ _
    have F77 : Old Z n0 T76.heap := (Old.keep F74 Kp76 all0)
    have zl78 : n0 ≤ T76.heap.size := by omega
    obtain ⟨cq79, kq79, q79a, q79b, q79c⟩ := isOf hZ rfl G76_0
    obtain ⟨_, _, ⟨T79, L79, k79, n79⟩, -, X79, ⟨Lc79, hQ79, l79, y79, z79⟩, st79⟩ := X76.virtualBack hx (y := (⟨"com/example/libtardy/libtardy/QueueName", "toString", "()Ljava/lang/String;"⟩ : MethodName)) (z := (⟨"com/example/libtardy/libtardy/QueueName", "toString", "()Ljava/lang/String;"⟩ : MethodName)) hown (mvT hZ (hw _ (List.mem_of_getElem? (i := 94) rfl))) (mvT hZ (hw _ (List.mem_of_getElem? (i := 95) rfl))) (notFace_of_selects (args := #[]) (mvT hZ (hw _ (List.mem_of_getElem? (i := 97) rfl)))) (mvT hZ (hw _ (List.mem_of_getElem? (i := 97) rfl))) (mvT hZ (hw _ (List.mem_of_getElem? (i := 96) rfl))) (by decide) (backOf (W := 0) (rmTos l Z a0 hw [] b_76 b55 T76.heap n0 zl78 G76_1 F77) hZ (hw _ (List.mem_of_getElem? (i := 98) rfl)) (hw _ (List.mem_of_getElem? (i := 37) rfl)) (by decide) (by decide)) q79a q79c (g := (mkF m 173 #[.val (.int i0), .val (.int i1), .val (.int i2), .val (.int i3), .val (.int i4), .val (.int (3 : Int32)), .val (.int cc_3), .val (.int cc_4), .val (.int cc_5), .val (.int cc_6), .val (.ref b55), .val (.ref b_76), .unset] [(.ref b_76)])) rfl (by rw [hml]; rfl) (Steps.refl _) (argsL := []) (rest := []) (lenOf pd__28_29Ljava_2flang_2fString_3b rfl) rfl (by show 2 * 0 + _ ≤ _; exact Nat.le_of_eq rfl) (hb hby at_173) (fun _ _ => ⟨rfl, rfl, (by decide : 6 + 0 ≤ _), (by decide : 31 + 0 ≤ _)⟩)
    dsimp only [Pt.U, Pt.locs, Pt.cells, Pt.slots] at X79 l79 y79 z79 st79 hQ79
    subst l79 y79 z79
    obtain ⟨rfl, Nq79, e79⟩ := hQ79
    have N79 := Fr.app N76 Nq79
    refine own_goT st79 ?_
    refine own_go (fun _ => XS.astore X79.here hx rfl (hb hby at_176) rfl rfl (l' := #[.val (.int i0), .val (.int i1), .val (.int i2), .val (.int i3), .val (.int i4), .val (.int (3 : Int32)), .val (.int cc_3), .val (.int cc_4), .val (.int cc_5), .val (.int cc_6), .val (.ref b55), .val (.ref b_76), .val (.ref b55)]) rfl) ?_
    refine own_go (fun _ => XS.aload X79.here hx rfl (hb hby at_178) rfl rfl) ?_
    show ∃ t o, Steps p.tables e below (T79.setTop (mkF m 180 #[.val (.int i0), .val (.int i1), .val (.int i2), .val (.int i3), .val (.int i4), .val (.int (3 : Int32)), .val (.int cc_3), .val (.int cc_4), .val (.int cc_5), .val (.int cc_6), .val (.ref b55), .val (.ref b_76), .val (.ref b55)] [(.ref b55)])) t ∧ _
    refine own_go (fun _ => XS.ifnonnullYes X79.here hx rfl (pc0 := 180) (pc' := 185) rfl (hb hby at_180) rfl (by decide) (by decide)) ?_
    refine own_go (fun _ => XS.aload X79.here hx rfl (hb hby at_185) rfl rfl) ?_
    refine own_go (fun _ => XS.aload X79.here hx rfl (hb hby at_187) rfl rfl) ?_
    show ∃ t o, Steps p.tables e below (T79.setTop (mkF m 189 #[.val (.int i0), .val (.int i1), .val (.int i2), .val (.int i3), .val (.int i4), .val (.int (3 : Int32)), .val (.int cc_3), .val (.int cc_4), .val (.int cc_5), .val (.int cc_6), .val (.ref b55), .val (.ref b_76), .val (.ref b55)] [(.ref b55), (.ref b55)])) t ∧ _
    have F80 : Exa Z T76.heap b55 "java/lang/String" := (Exa.keep G65_0 Kp76)
    obtain ⟨cq81, kq81, q81a, q81b, q81c⟩ := isOf hZ e79 F80
    obtain ⟨_, _, ⟨T81, L81, k81, n81⟩, -, X81, ⟨Lc81, hQ81, l81, y81, z81⟩, st81⟩ := X79.virtualBack hx (y := (⟨"java/lang/String", "equals", "(Ljava/lang/Object;)Z"⟩ : MethodName)) (z := (⟨"java/lang/String", "equals", "(Ljava/lang/Object;)Z"⟩ : MethodName)) hown (mvT hZ (hw _ (List.mem_of_getElem? (i := 99) rfl))) (mvT hZ (hw _ (List.mem_of_getElem? (i := 100) rfl))) (notFace_of_selects (args := #[]) (mvT hZ (hw _ (List.mem_of_getElem? (i := 102) rfl)))) (mvT hZ (hw _ (List.mem_of_getElem? (i := 102) rfl))) (mvT hZ (hw _ (List.mem_of_getElem? (i := 101) rfl))) (by decide) (backOf (W := 0) (rmEq l Z a0 hw [] b55 T76.heap n0 zl78 F77) hZ (hw _ (List.mem_of_getElem? (i := 103) rfl)) (hw _ (List.mem_of_getElem? (i := 7) rfl)) (by decide) (by decide)) q81a q81c (g := (mkF m 189 #[.val (.int i0), .val (.int i1), .val (.int i2), .val (.int i3), .val (.int i4), .val (.int (3 : Int32)), .val (.int cc_3), .val (.int cc_4), .val (.int cc_5), .val (.int cc_6), .val (.ref b55), .val (.ref b_76), .val (.ref b55)] [(.ref b55), (.ref b55)])) rfl (by rw [hml]; rfl) (Steps.refl _) (argsL := [(.ref b55)]) (rest := []) (lenOf pd__28Ljava_2flang_2fObject_3b_29Z rfl) rfl (by show 2 * 0 + _ ≤ _; exact Nat.le_of_eq rfl) (hb hby at_189) (fun _ _ => ⟨rfl, e79, (by decide : 6 + 0 ≤ _), (by decide : 31 + 0 ≤ _)⟩)
    dsimp only [Pt.U, Pt.locs, Pt.cells, Pt.slots] at X81 l81 y81 z81 st81 hQ81
    subst l81 y81 z81
    obtain ⟨rfl, Nq81, e81⟩ := hQ81
    have N81 := Fr.app N79 Nq81
    refine own_goT st81 ?_
    show ∃ t o, Steps p.tables e below (T81.setTop (mkF m 192 #[.val (.int i0), .val (.int i1), .val (.int i2), .val (.int i3), .val (.int i4), .val (.int (3 : Int32)), .val (.int cc_3), .val (.int cc_4), .val (.int cc_5), .val (.int cc_6), .val (.ref b55), .val (.ref b_76), .val (.ref b55)] [(.int (1 : Int32))])) t ∧ _
    obtain ⟨fs, hr, hrun, hended, hW⟩ := Jvm.Stand.leaveW X81 hS (by rw [e81]; omega) (v := some (.int (1 : Int32))) (fun h => by rw [Bd.returns] at h; cases h)
    refine ⟨_, _, ?_, hrun, hended, _, _, rfl, ?_, ⟨hW.1, hW.2.1, hW.2.2.1, hW.2.2.2.mono (by decide) (by decide)⟩⟩
    · exact retN X81 hx (t := .boolean) Bd.returns (by simp) (hb hby at_192) hr
    · show Q_rm0 Z _ _ _ _ _ _ _ h0 n0 _ T81.heap _
      rw [e81]
      exact ⟨rfl, N81, K76⟩
  · rw [hk]
    refine own_go (fun _ => XS.iload X6.here hx rfl (hb hby at_32) rfl) ?_
    show ∃ t o, Steps p.tables e below (T6.setTop (mkF m 34 #[.val (.int i0), .val (.int i1), .val (.int i2), .val (.int i3), .val (.int i4), .val (.int (4 : Int32)), .val (.int cc_3), .val (.int cc_4), .val (.int cc_5), .val (.int cc_6), .unset, .unset, .unset] [(.int (4 : Int32))])) t ∧ _
    refine own_go (fun _ => XS.iconst X6.here hx rfl (hb hby at_34)) ?_
    show ∃ t o, Steps p.tables e below (T6.setTop (mkF m 35 #[.val (.int i0), .val (.int i1), .val (.int i2), .val (.int i3), .val (.int i4), .val (.int (4 : Int32)), .val (.int cc_3), .val (.int cc_4), .val (.int cc_5), .val (.int cc_6), .unset, .unset, .unset] [(.int (1 : Int32)), (.int (4 : Int32))])) t ∧ _
    refine own_go (fun _ => XS.icmpYes X6.here hx rfl (pc0 := 35) (pc' := 58) rfl (hb hby at_35) rfl (feq (by decide : ¬ ((4 : Int32) = (1 : Int32)))).2 (by decide) (by decide)) ?_
    refine own_go (fun _ => XS.iload X6.here hx rfl (hb hby at_58) rfl) ?_
    refine own_go (fun _ => XS.iconst X6.here hx rfl (hb hby at_60)) ?_
    show ∃ t o, Steps p.tables e below (T6.setTop (mkF m 61 #[.val (.int i0), .val (.int i1), .val (.int i2), .val (.int i3), .val (.int i4), .val (.int (4 : Int32)), .val (.int cc_3), .val (.int cc_4), .val (.int cc_5), .val (.int cc_6), .unset, .unset, .unset] [(.int (2 : Int32)), (.int (4 : Int32))])) t ∧ _
    refine own_go (fun _ => XS.icmpYes X6.here hx rfl (pc0 := 61) (pc' := 89) rfl (hb hby at_61) rfl (feq (by decide : ¬ ((4 : Int32) = (2 : Int32)))).2 (by decide) (by decide)) ?_
    refine own_go (fun _ => XS.iload X6.here hx rfl (hb hby at_89) rfl) ?_
    refine own_go (fun _ => XS.iconst X6.here hx rfl (hb hby at_91)) ?_
    show ∃ t o, Steps p.tables e below (T6.setTop (mkF m 92 #[.val (.int i0), .val (.int i1), .val (.int i2), .val (.int i3), .val (.int i4), .val (.int (4 : Int32)), .val (.int cc_3), .val (.int cc_4), .val (.int cc_5), .val (.int cc_6), .unset, .unset, .unset] [(.int (3 : Int32)), (.int (4 : Int32))])) t ∧ _
    refine own_go (fun _ => XS.icmpYes X6.here hx rfl (pc0 := 92) (pc' := 125) rfl (hb hby at_92) rfl (feq (by decide : ¬ ((4 : Int32) = (3 : Int32)))).2 (by decide) (by decide)) ?_
    show ∃ t o, Steps p.tables e below (T6.setTop (mkF m 125 #[.val (.int i0), .val (.int i1), .val (.int i2), .val (.int i3), .val (.int i4), .val (.int (4 : Int32)), .val (.int cc_3), .val (.int cc_4), .val (.int cc_5), .val (.int cc_6), .unset, .unset, .unset] [])) t ∧ _
    obtain ⟨T82, h82, X82, e82, E82, A82, D82, -, st82⟩ := newO X6 hx hZ hown (hw _ (List.mem_of_getElem? (i := 5) rfl)) (hw _ (List.mem_of_getElem? (i := 6) rfl)) (hw _ (List.mem_of_getElem? (i := 7) rfl)) e6 (g := (mkF m 125 #[.val (.int i0), .val (.int i1), .val (.int i2), .val (.int i3), .val (.int i4), .val (.int (4 : Int32)), .val (.int cc_3), .val (.int cc_4), .val (.int cc_5), .val (.int cc_6), .unset, .unset, .unset] [])) rfl (hb hby at_125) (by decide) (by decide)
    obtain ⟨b82, g82⟩ : ∃ z, z = h0.size := ⟨_, rfl⟩
    rw [← g82] at A82 D82 st82
    refine own_go st82 ?_
    have le_82 : h0.size ≤ h82.size := E82.1
    have lt_b82 : b82 < h82.size := A82.lt
    have F_coder_b82 : Fld Z h82 b82 "java/lang/String" "coder" "B" (.int (0 : Int32)) := D82 (Or.inr (hw _ (List.mem_of_getElem? (i := 32) rfl))) (ty := .byte) (by decide)
    have F_value_b82 : Fld Z h82 b82 "java/lang/String" "value" "[B" .null := D82 (Or.inr (hw _ (List.mem_of_getElem? (i := 34) rfl))) (ty := (.array .byte)) (by decide)
    have K82 : Keep h0 h82 [] := Keep.ext (Keep.refl h0 []) E82
    refine own_go (fun _ => XS.dup X82.here hx rfl (hb hby at_128) rfl rfl) ?_
    refine own_go (fun _ => XS.iconst X82.here hx rfl (hb hby at_129)) ?_
    show ∃ t o, Steps p.tables e below (T82.setTop (mkF m 130 #[.val (.int i0), .val (.int i1), .val (.int i2), .val (.int i3), .val (.int i4), .val (.int (4 : Int32)), .val (.int cc_3), .val (.int cc_4), .val (.int cc_5), .val (.int cc_6), .unset, .unset, .unset] [(.int (4 : Int32)), (.ref b82), (.ref b82)])) t ∧ _
    obtain ⟨T83, h83, k83, X83, e83, E83, A83, st83⟩ := newP X82 hx hZ (hw _ (List.mem_of_getElem? (i := 8) rfl)) e82 (g := (mkF m 130 #[.val (.int i0), .val (.int i1), .val (.int i2), .val (.int i3), .val (.int i4), .val (.int (4 : Int32)), .val (.int cc_3), .val (.int cc_4), .val (.int cc_5), .val (.int cc_6), .unset, .unset, .unset] [(.int (4 : Int32)), (.ref b82), (.ref b82)])) rfl (hb hby at_130) rfl (by decide) (cap := 4) (by decide) (by decide) (by decide) (by decide)
    obtain ⟨b83, g83⟩ : ∃ z, z = h82.size := ⟨_, rfl⟩
    rw [← g83] at A83 st83
    refine own_go st83 ?_
    have le_83 : h82.size ≤ h83.size := E83.1
    have lt_b83 : b83 < h83.size := A83.lt
    have V_b83 : Arv Z h83 b83 k83 .char (4 : Int32) [(.int (0 : Int32)), (.int (0 : Int32)), (.int (0 : Int32)), (.int (0 : Int32))] (.int (0 : Int32)) := (Arv.new A83 (by decide)).pad (pad_rep [] (.int (0 : Int32)) 4)
    have K83 : Keep h0 h83 [] := Keep.ext K82 E83
    refine own_go (fun _ => XS.dup X83.here hx rfl (hb hby at_132) rfl rfl) ?_
    refine own_go (fun _ => XS.iconst X83.here hx rfl (hb hby at_133)) ?_
    show ∃ t o, Steps p.tables e below (T83.setTop (mkF m 134 #[.val (.int i0), .val (.int i1), .val (.int i2), .val (.int i3), .val (.int i4), .val (.int (4 : Int32)), .val (.int cc_3), .val (.int cc_4), .val (.int cc_5), .val (.int cc_6), .unset, .unset, .unset] [(.int (0 : Int32)), (.ref b83), (.ref b83), (.ref b82), (.ref b82)])) t ∧ _
    refine own_go (fun _ => XS.iload X83.here hx rfl (hb hby at_134) rfl) ?_
    obtain ⟨cl84, Ar84, q84, S84, N84, H84, G84⟩ := id V_b83
    have hin84 : ¬ ((0 : Int32) < 0 ∨ cl84.slots.size ≤ ((0 : Int32)).toNatClampNeg) := inb_of S84 ⟨by decide, by decide⟩
    obtain ⟨T85, h85, X85, e85, W85, st85⟩ := stC X83 hx hZ e83 Ar84 (j := (0 : Int32)) hin84 (g := (mkF m 136 #[.val (.int i0), .val (.int i1), .val (.int i2), .val (.int i3), .val (.int i4), .val (.int (4 : Int32)), .val (.int cc_3), .val (.int cc_4), .val (.int cc_5), .val (.int cc_6), .unset, .unset, .unset] [(.int cc_3), (.int (0 : Int32)), (.ref b83), (.ref b83), (.ref b82), (.ref b82)])) rfl rfl (hb hby at_136)
    refine own_go st85 ?_
    have ge86 : n0 ≤ b83 := by omega
    have le_85 : h83.size ≤ h85.size := Nat.le_of_eq W85.size.symm
    have sz87 : h0.size ≤ b83 := by omega
    have K85 : Keep h0 h85 [] := Keep.wr K83 W85 (Or.inr sz87)
    have N85 := Fr.snoc X85 N6 ge86
    have V85 : Arv Z h85 b83 k83 .char (4 : Int32) [(.int (nar .char cc_3)), (.int (0 : Int32)), (.int (0 : Int32)), (.int (0 : Int32))] (.int (0 : Int32)) := Arv.set Ar84 q84 S84 N84 H84 G84 (fits_nar_char _) W85 0 rfl (Nat.le_of_ble_eq_true rfl)
    refine own_go (fun _ => XS.dup X85.here hx rfl (hb hby at_137) rfl rfl) ?_
    show ∃ t o, Steps p.tables e below (T85.setTop (mkF m 138 #[.val (.int i0), .val (.int i1), .val (.int i2), .val (.int i3), .val (.int i4), .val (.int (4 : Int32)), .val (.int cc_3), .val (.int cc_4), .val (.int cc_5), .val (.int cc_6), .unset, .unset, .unset] [(.ref b83), (.ref b83), (.ref b82), (.ref b82)])) t ∧ _
    refine own_go (fun _ => XS.iconst X85.here hx rfl (hb hby at_138)) ?_
    refine own_go (fun _ => XS.iload X85.here hx rfl (hb hby at_139) rfl) ?_
    obtain ⟨cl88, Ar88, q88, S88, N88, H88, G88⟩ := id V85
    have hin88 : ¬ ((1 : Int32) < 0 ∨ cl88.slots.size ≤ ((1 : Int32)).toNatClampNeg) := inb_of S88 ⟨by decide, by decide⟩
    obtain ⟨T89, h89, X89, e89, W89, st89⟩ := stC X85 hx hZ e85 Ar88 (j := (1 : Int32)) hin88 (g := (mkF m 141 #[.val (.int i0), .val (.int i1), .val (.int i2), .val (.int i3), .val (.int i4), .val (.int (4 : Int32)), .val (.int cc_3), .val (.int cc_4), .val (.int cc_5), .val (.int cc_6), .unset, .unset, .unset] [(.int cc_4), (.int (1 : Int32)), (.ref b83), (.ref b83), (.ref b82), (.ref b82)])) rfl rfl (hb hby at_141)
    refine own_go st89 ?_
    have le_89 : h85.size ≤ h89.size := Nat.le_of_eq W89.size.symm
    have K89 : Keep h0 h89 [] := Keep.wr K85 W89 (Or.inr sz87)
    have N89 := Fr.snoc X89 N85 ge86
    have V89 : Arv Z h89 b83 k83 .char (4 : Int32) [(.int (nar .char cc_3)), (.int (nar .char cc_4)), (.int (0 : Int32)), (.int (0 : Int32))] (.int (0 : Int32)) := Arv.set Ar88 q88 S88 N88 H88 G88 (fits_nar_char _) W89 1 rfl (Nat.le_of_ble_eq_true rfl)
    show ∃ t o, Steps p.tables e below (T89.setTop (mkF m 142 #[.val (.int i0), .val (.int i1), .val (.int i2), .val (.int i3), .val (.int i4), .val (.int (4 : Int32)), .val (.int cc_3), .val (.int cc_4), .val (.int cc_5), .val (.int cc_6), .unset, .unset, .unset] [(.ref b83), (.ref b82), (.ref b82)])) t ∧ _
    refine own_go (fun _ => XS.dup X89.here hx rfl (hb hby at_142) rfl rfl) ?_
    refine own_go (fun _ => XS.iconst X89.here hx rfl (hb hby at_143)) ?_
    refine own_go (fun _ => XS.iload X89.here hx rfl (hb hby at_144) rfl) ?_
    show ∃ t o, Steps p.tables e below (T89.setTop (mkF m 146 #[.val (.int i0), .val (.int i1), .val (.int i2), .val (.int i3), .val (.int i4), .val (.int (4 : Int32)), .val (.int cc_3), .val (.int cc_4), .val (.int cc_5), .val (.int cc_6), .unset, .unset, .unset] [(.int cc_5), (.int (2 : Int32)), (.ref b83), (.ref b83), (.ref b82), (.ref b82)])) t ∧ _
    obtain ⟨cl90, Ar90, q90, S90, N90, H90, G90⟩ := id V89
    have hin90 : ¬ ((2 : Int32) < 0 ∨ cl90.slots.size ≤ ((2 : Int32)).toNatClampNeg) := inb_of S90 ⟨by decide, by decide⟩
    obtain ⟨T91, h91, X91, e91, W91, st91⟩ := stC X89 hx hZ e89 Ar90 (j := (2 : Int32)) hin90 (g := (mkF m 146 #[.val (.int i0), .val (.int i1), .val (.int i2), .val (.int i3), .val (.int i4), .val (.int (4 : Int32)), .val (.int cc_3), .val (.int cc_4), .val (.int cc_5), .val (.int cc_6), .unset, .unset, .unset] [(.int cc_5), (.int (2 : Int32)), (.ref b83), (.ref b83), (.ref b82), (.ref b82)])) rfl rfl (hb hby at_146)
    refine own_go st91 ?_
    have le_91 : h89.size ≤ h91.size := Nat.le_of_eq W91.size.symm
    have K91 : Keep h0 h91 [] := Keep.wr K89 W91 (Or.inr sz87)
    have N91 := Fr.snoc X91 N89 ge86
    have V91 : Arv Z h91 b83 k83 .char (4 : Int32) [(.int (nar .char cc_3)), (.int (nar .char cc_4)), (.int (nar .char cc_5)), (.int (0 : Int32))] (.int (0 : Int32)) := Arv.set Ar90 q90 S90 N90 H90 G90 (fits_nar_char _) W91 2 rfl (Nat.le_of_ble_eq_true rfl)
    refine own_go (fun _ => XS.dup X91.here hx rfl (hb hby at_147) rfl rfl) ?_
    refine own_go (fun _ => XS.iconst X91.here hx rfl (hb hby at_148)) ?_
    show ∃ t o, Steps p.tables e below (T91.setTop (mkF m 149 #[.val (.int i0), .val (.int i1), .val (.int i2), .val (.int i3), .val (.int i4), .val (.int (4 : Int32)), .val (.int cc_3), .val (.int cc_4), .val (.int cc_5), .val (.int cc_6), .unset, .unset, .unset] [(.int (3 : Int32)), (.ref b83), (.ref b83), (.ref b82), (.ref b82)])) t ∧ _
    refine own_go (fun _ => XS.iload X91.here hx rfl (hb hby at_149) rfl) ?_
    obtain ⟨cl92, Ar92, q92, S92, N92, H92, G92⟩ := id V91
    have hin92 : ¬ ((3 : Int32) < 0 ∨ cl92.slots.size ≤ ((3 : Int32)).toNatClampNeg) := inb_of S92 ⟨by decide, by decide⟩
    obtain ⟨T93, h93, X93, e93, W93, st93⟩ := stC X91 hx hZ e91 Ar92 (j := (3 : Int32)) hin92 (g := (mkF m 151 #[.val (.int i0), .val (.int i1), .val (.int i2), .val (.int i3), .val (.int i4), .val (.int (4 : Int32)), .val (.int cc_3), .val (.int cc_4), .val (.int cc_5), .val (.int cc_6), .unset, .unset, .unset] [(.int cc_6), (.int (3 : Int32)), (.ref b83), (.ref b83), (.ref b82), (.ref b82)])) rfl rfl (hb hby at_151)
    refine own_go st93 ?_
    have le_93 : h91.size ≤ h93.size := Nat.le_of_eq W93.size.symm
    have K93 : Keep h0 h93 [] := Keep.wr K91 W93 (Or.inr sz87)
    have N93 := Fr.snoc X93 N91 ge86
    have V93 : Arv Z h93 b83 k83 .char (4 : Int32) [(.int (nar .char cc_3)), (.int (nar .char cc_4)), (.int (nar .char cc_5)), (.int (nar .char cc_6))] (.int (0 : Int32)) := Arv.set Ar92 q92 S92 N92 H92 G92 (fits_nar_char _) W93 3 rfl (Nat.le_of_ble_eq_true rfl)
    show ∃ t o, Steps p.tables e below (T93.setTop (mkF m 152 #[.val (.int i0), .val (.int i1), .val (.int i2), .val (.int i3), .val (.int i4), .val (.int (4 : Int32)), .val (.int cc_3), .val (.int cc_4), .val (.int cc_5), .val (.int cc_6), .unset, .unset, .unset] [(.ref b83), (.ref b82), (.ref b82)])) t ∧ _
    have hws : ∀ d ∈ StrChars.Road.words, d.before a0 Z = true := fun d hd => hw d ((by decide +kernel : ∀ d ∈ StrChars.Road.words, d ∈ tables_1) d hd)
    have hp94 : ∀ c ∈ ([(nar .char cc_3), (nar .char cc_4), (nar .char cc_5), (nar .char cc_6)] : List Int32), ¬ c < 0 ∧ ¬ (255 : Int32) < c := (own_allS (own_okrg (own_okn H3_0)) (own_allS (own_okrg (own_okn H4_0)) (own_allS (own_okrg (own_okn H5_0)) (own_allS (own_okrg (own_okn H6_0)) own_all0))))
    have F95 : Exa Z h93 b82 "java/lang/String" := (Exa.wr W93 (Exa.wr W91 (Exa.wr W89 (Exa.wr W85 (Exa.ext E83 A82)))))
    have ne96 : b82 ≠ b83 := own_ne (by omega)
    have F97 : Fld Z h93 b82 "java/lang/String" "value" "[B" .null := (Fld.other W93 (Fld.other W91 (Fld.other W89 (Fld.other W85 (Fld.ext E83 F_value_b82) (Or.inl ne96)) (Or.inl ne96)) (Or.inl ne96)) (Or.inl ne96))
    have F98 : Fld Z h93 b82 "java/lang/String" "coder" "B" (.int (0 : Int32)) := (Fld.other W93 (Fld.other W91 (Fld.other W89 (Fld.other W85 (Fld.ext E83 F_coder_b82) (Or.inl ne96)) (Or.inl ne96)) (Or.inl ne96)) (Or.inl ne96))
    have F99 : Old Z n0 h93 := (Old.wr (Old.wr (Old.wr (Old.wr ((OLD.ext E82).ext E83) W85 ge86) W89 ge86) W91 ge86) W93 ge86)
    have zl100 : n0 ≤ h93.size := by omega
    have ge101 : n0 ≤ b82 := by omega
    obtain ⟨_, _, ⟨T94, L94, k94, n94⟩, -, X94, ⟨Lc94, hQ94, l94, y94, z94⟩, st94⟩ := X93.specialBack hx (y := (⟨"java/lang/String", "<init>", "([C)V"⟩ : MethodName)) rfl hown (mvT hZ (hw _ (List.mem_of_getElem? (i := 9) rfl))) (mvT hZ (hw _ (List.mem_of_getElem? (i := 10) rfl))) (mvT hZ (hw _ (List.mem_of_getElem? (i := 11) rfl))) (by decide) (StrChars.Road.backV (W := 1) hZ hws (kI := 4) (hw _ (List.mem_of_getElem? (i := 6) rfl)) (cs := ([(nar .char cc_3), (nar .char cc_4), (nar .char cc_5), (nar .char cc_6)] : List Int32)) (bs := (([(nar .char cc_3), (nar .char cc_4), (nar .char cc_5), (nar .char cc_6)] : List Int32)).map (fun c => c.toInt8.toInt32)) (n := 4) ge101 zl100 F95 F97 F98 V93 (Sta.ext F99.2 P1) hzc rfl rfl (by decide) (by decide) hp94 rfl (by decide) (by decide)) (g := (mkF m 152 #[.val (.int i0), .val (.int i1), .val (.int i2), .val (.int i3), .val (.int i4), .val (.int (4 : Int32)), .val (.int cc_3), .val (.int cc_4), .val (.int cc_5), .val (.int cc_6), .unset, .unset, .unset] [(.ref b83), (.ref b82), (.ref b82)])) rfl (by rw [hml]; rfl) (Steps.refl _) (a := b82) (argsL := [(.ref b83)]) (rest := [(.ref b82)]) (lenOf pd__28_5bC_29V rfl) rfl (by show 2 * 0 + _ ≤ _; exact Nat.le_of_eq rfl) (hb hby at_152) (fun _ _ => ⟨rfl, e93, (by decide : 2 + 1 ≤ _), (by decide : 8 + 4 ≤ _)⟩)
    dsimp only [Pt.U, Pt.locs, Pt.cells, Pt.slots] at X94 l94 y94 z94 st94 hQ94
    subst l94 y94 z94
    obtain ⟨rfl, Nq94, Kp94, G94_0, G94_1, t94, kb94, u94_1, u94_2, u94_3, G94_2, G94_3⟩ := hQ94
    have N94 := Fr.app N93 Nq94
    refine own_goT st94 ?_
    have le_94 : h93.size ≤ T94.heap.size := Kp94.1
    have sz102 : h0.size ≤ b82 := by omega
    have K94 : Keep h0 T94.heap [] := Keep.trans K93 Kp94 (allS (Or.inr sz102) all0)
    have G94_4 : Arv Z T94.heap t94 kb94 .byte (4 : Int32) [(.int ((nar .char cc_3).toInt8.toInt32)), (.int ((nar .char cc_4).toInt8.toInt32)), (.int ((nar .char cc_5).toInt8.toInt32)), (.int ((nar .char cc_6).toInt8.toInt32))] (.int (0 : Int32)) := G94_3
    have lt_t94 : (t94 : Nat) < T94.heap.size := G94_3.lt
    refine own_go (fun _ => XS.astore X94.here hx rfl (hb hby at_155) rfl rfl (l' := #[.val (.int i0), .val (.int i1), .val (.int i2), .val (.int i3), .val (.int i4), .val (.int (4 : Int32)), .val (.int cc_3), .val (.int cc_4), .val (.int cc_5), .val (.int cc_6), .val (.ref b82), .unset, .unset]) rfl) ?_
    refine own_go (fun _ => XS.aload X94.here hx rfl (hb hby at_157) rfl rfl) ?_
    show ∃ t o, Steps p.tables e below (T94.setTop (mkF m 159 #[.val (.int i0), .val (.int i1), .val (.int i2), .val (.int i3), .val (.int i4), .val (.int (4 : Int32)), .val (.int cc_3), .val (.int cc_4), .val (.int cc_5), .val (.int cc_6), .val (.ref b82), .unset, .unset] [(.ref b82)])) t ∧ _
    have F103 : Old Z n0 T94.heap := (Old.keep F99 Kp94 (allS ge101 all0))
    have zl104 : n0 ≤ T94.heap.size := by omega
    obtain ⟨_, _, ⟨T105, L105, k105, n105⟩, -, X105, hSn105, hgn105, ⟨Lc105, hQ105, l105, y105, z105⟩, st105⟩ := callSS X94 hx (y := (⟨"com/example/libtardy/libtardy/QueueName", "of", "(Ljava/lang/String;)Lcom/example/libtardy/libtardy/QueueName;"⟩ : MethodName)) hown (mvT hZ (hw _ (List.mem_of_getElem? (i := 35) rfl))) (mvT hZ (hw _ (List.mem_of_getElem? (i := 36) rfl))) (mvT hZ (hw _ (List.mem_of_getElem? (i := 37) rfl))) (mvT hZ (hw _ (List.mem_of_getElem? (i := 38) rfl))) (by decide) (backOfS (W := 0) (rmOf4 l Z a0 hw [] b82 t94 kb94 (nar .char cc_3) (nar .char cc_4) (nar .char cc_5) (nar .char cc_6) zc gv T94.heap n0 zl104 G94_0 G94_2 G94_1 G94_4 F103 P1 P2 hzc hgv (own_okn H3_0 : own_ok (nar .char cc_3)) (own_okn H4_0 : own_ok (nar .char cc_4)) (own_okn H5_0 : own_ok (nar .char cc_5)) (own_okn H6_0 : own_ok (nar .char cc_6))) hZ (hw _ (List.mem_of_getElem? (i := 38) rfl)) (hw _ (List.mem_of_getElem? (i := 37) rfl)) (by decide) (by decide)) (g := (mkF m 159 #[.val (.int i0), .val (.int i1), .val (.int i2), .val (.int i3), .val (.int i4), .val (.int (4 : Int32)), .val (.int cc_3), .val (.int cc_4), .val (.int cc_5), .val (.int cc_6), .val (.ref b82), .unset, .unset] [(.ref b82)])) rfl (by rw [hml]; rfl) (argsL := [(.ref b82)]) (rest := []) (lenOf pd_h60344592 rfl) rfl (by show 2 * 0 + _ ≤ _; exact Nat.le_of_eq rfl) (hb hby at_159) (fun _ _ => ⟨rfl, rfl, (by decide : 3 + 3 ≤ _), (by decide : 12 + 21 ≤ _)⟩)
    dsimp only [Pt.U, Pt.locs, Pt.cells, Pt.slots] at X105 l105 y105 z105 st105 hQ105 hSn105 hgn105
    subst l105 y105 z105
    have hZ : Z.Warmed39 (s.setVm T105.vm).vm := State.Warmed39.trans (t := s.setVm s.vm) hZ hSn105.1
    have hown : (s.setVm T105.vm).vm.findClass "com/example/libtardy/libtardy/QueueNameOfPinLaw" = some m.cls := by rw [show (s.setVm T105.vm).vm = T105.vm from rfl, hSn105.1.alike.findClass]; exact hown
    have hS : s.Since T105.vm T105.heap.size := foldS (T := T94) hS (Nat.zero_le _) hSn105 hgn105
    have X105 : Stand p l e _ (s.setVm T105.vm) m _ below meth c T105 _ _ _ := X105
    obtain ⟨b_105, rfl, Nq105, Kp105, G105_0, G105_1⟩ := hQ105
    have N105 := Fr.app N94 Nq105
    refine own_goT st105 ?_
    have le_105 : T94.heap.size ≤ T105.heap.size := Kp105.1
    have K105 : Keep h0 T105.heap [] := Keep.trans K94 Kp105 all0
    have lt_b_105 : b_105 < T105.heap.size := (G105_0).lt
    refine own_go (fun _ => XS.astore X105.here hx rfl (hb hby at_162) rfl rfl (l' := #[.val (.int i0), .val (.int i1), .val (.int i2), .val (.int i3), .val (.int i4), .val (.int (4 : Int32)), .val (.int cc_3), .val (.int cc_4), .val (.int cc_5), .val (.int cc_6), .val (.ref b82), .val (.ref b_105), .unset]) rfl) ?_
    refine own_go (fun _ => XS.aload X105.here hx rfl (hb hby at_164) rfl rfl) ?_
    show ∃ t o, Steps p.tables e below (T105.setTop (mkF m 166 #[.val (.int i0), .val (.int i1), .val (.int i2), .val (.int i3), .val (.int i4), .val (.int (4 : Int32)), .val (.int cc_3), .val (.int cc_4), .val (.int cc_5), .val (.int cc_6), .val (.ref b82), .val (.ref b_105), .unset] [(.ref b_105)])) t ∧ _
    refine own_go (fun _ => XS.ifnonnullYes X105.here hx rfl (pc0 := 166) (pc' := 171) rfl (hb hby at_166) rfl (by decide) (by decide)) ?_
    refine own_go (fun _ => XS.aload X105.here hx rfl (hb hby at_171) rfl rfl) ?_
    show ∃ t o, Steps p.tables e below (T105.setTop (mkF m 173 #[.val (.int i0), .val (.int i1), .val (.int i2), .val (.int i3), .val (.int i4), .val (.int (4 : Int32)), .val (.int cc_3), .val (.int cc_4), .val (.int cc_5), .val (.int cc_6), .val (.ref b82), .val (.ref b_105), .unset] [(.ref b_105)])) t ∧ _
    have F106 : Old Z n0 T105.heap := (Old.keep F103 Kp105 all0)
    have zl107 : n0 ≤ T105.heap.size := by omega
    obtain ⟨cq108, kq108, q108a, q108b, q108c⟩ := isOf hZ rfl G105_0
    obtain ⟨_, _, ⟨T108, L108, k108, n108⟩, -, X108, ⟨Lc108, hQ108, l108, y108, z108⟩, st108⟩ := X105.virtualBack hx (y := (⟨"com/example/libtardy/libtardy/QueueName", "toString", "()Ljava/lang/String;"⟩ : MethodName)) (z := (⟨"com/example/libtardy/libtardy/QueueName", "toString", "()Ljava/lang/String;"⟩ : MethodName)) hown (mvT hZ (hw _ (List.mem_of_getElem? (i := 94) rfl))) (mvT hZ (hw _ (List.mem_of_getElem? (i := 95) rfl))) (notFace_of_selects (args := #[]) (mvT hZ (hw _ (List.mem_of_getElem? (i := 97) rfl)))) (mvT hZ (hw _ (List.mem_of_getElem? (i := 97) rfl))) (mvT hZ (hw _ (List.mem_of_getElem? (i := 96) rfl))) (by decide) (backOf (W := 0) (rmTos l Z a0 hw [] b_105 b82 T105.heap n0 zl107 G105_1 F106) hZ (hw _ (List.mem_of_getElem? (i := 98) rfl)) (hw _ (List.mem_of_getElem? (i := 37) rfl)) (by decide) (by decide)) q108a q108c (g := (mkF m 173 #[.val (.int i0), .val (.int i1), .val (.int i2), .val (.int i3), .val (.int i4), .val (.int (4 : Int32)), .val (.int cc_3), .val (.int cc_4), .val (.int cc_5), .val (.int cc_6), .val (.ref b82), .val (.ref b_105), .unset] [(.ref b_105)])) rfl (by rw [hml]; rfl) (Steps.refl _) (argsL := []) (rest := []) (lenOf pd__28_29Ljava_2flang_2fString_3b rfl) rfl (by show 2 * 0 + _ ≤ _; exact Nat.le_of_eq rfl) (hb hby at_173) (fun _ _ => ⟨rfl, rfl, (by decide : 6 + 0 ≤ _), (by decide : 33 + 0 ≤ _)⟩)
    dsimp only [Pt.U, Pt.locs, Pt.cells, Pt.slots] at X108 l108 y108 z108 st108 hQ108
    subst l108 y108 z108
    obtain ⟨rfl, Nq108, e108⟩ := hQ108
    have N108 := Fr.app N105 Nq108
    refine own_goT st108 ?_
    refine own_go (fun _ => XS.astore X108.here hx rfl (hb hby at_176) rfl rfl (l' := #[.val (.int i0), .val (.int i1), .val (.int i2), .val (.int i3), .val (.int i4), .val (.int (4 : Int32)), .val (.int cc_3), .val (.int cc_4), .val (.int cc_5), .val (.int cc_6), .val (.ref b82), .val (.ref b_105), .val (.ref b82)]) rfl) ?_
    refine own_go (fun _ => XS.aload X108.here hx rfl (hb hby at_178) rfl rfl) ?_
    show ∃ t o, Steps p.tables e below (T108.setTop (mkF m 180 #[.val (.int i0), .val (.int i1), .val (.int i2), .val (.int i3), .val (.int i4), .val (.int (4 : Int32)), .val (.int cc_3), .val (.int cc_4), .val (.int cc_5), .val (.int cc_6), .val (.ref b82), .val (.ref b_105), .val (.ref b82)] [(.ref b82)])) t ∧ _
    refine own_go (fun _ => XS.ifnonnullYes X108.here hx rfl (pc0 := 180) (pc' := 185) rfl (hb hby at_180) rfl (by decide) (by decide)) ?_
    refine own_go (fun _ => XS.aload X108.here hx rfl (hb hby at_185) rfl rfl) ?_
    refine own_go (fun _ => XS.aload X108.here hx rfl (hb hby at_187) rfl rfl) ?_
    show ∃ t o, Steps p.tables e below (T108.setTop (mkF m 189 #[.val (.int i0), .val (.int i1), .val (.int i2), .val (.int i3), .val (.int i4), .val (.int (4 : Int32)), .val (.int cc_3), .val (.int cc_4), .val (.int cc_5), .val (.int cc_6), .val (.ref b82), .val (.ref b_105), .val (.ref b82)] [(.ref b82), (.ref b82)])) t ∧ _
    have F109 : Exa Z T105.heap b82 "java/lang/String" := (Exa.keep G94_0 Kp105)
    obtain ⟨cq110, kq110, q110a, q110b, q110c⟩ := isOf hZ e108 F109
    obtain ⟨_, _, ⟨T110, L110, k110, n110⟩, -, X110, ⟨Lc110, hQ110, l110, y110, z110⟩, st110⟩ := X108.virtualBack hx (y := (⟨"java/lang/String", "equals", "(Ljava/lang/Object;)Z"⟩ : MethodName)) (z := (⟨"java/lang/String", "equals", "(Ljava/lang/Object;)Z"⟩ : MethodName)) hown (mvT hZ (hw _ (List.mem_of_getElem? (i := 99) rfl))) (mvT hZ (hw _ (List.mem_of_getElem? (i := 100) rfl))) (notFace_of_selects (args := #[]) (mvT hZ (hw _ (List.mem_of_getElem? (i := 102) rfl)))) (mvT hZ (hw _ (List.mem_of_getElem? (i := 102) rfl))) (mvT hZ (hw _ (List.mem_of_getElem? (i := 101) rfl))) (by decide) (backOf (W := 0) (rmEq l Z a0 hw [] b82 T105.heap n0 zl107 F106) hZ (hw _ (List.mem_of_getElem? (i := 103) rfl)) (hw _ (List.mem_of_getElem? (i := 7) rfl)) (by decide) (by decide)) q110a q110c (g := (mkF m 189 #[.val (.int i0), .val (.int i1), .val (.int i2), .val (.int i3), .val (.int i4), .val (.int (4 : Int32)), .val (.int cc_3), .val (.int cc_4), .val (.int cc_5), .val (.int cc_6), .val (.ref b82), .val (.ref b_105), .val (.ref b82)] [(.ref b82), (.ref b82)])) rfl (by rw [hml]; rfl) (Steps.refl _) (argsL := [(.ref b82)]) (rest := []) (lenOf pd__28Ljava_2flang_2fObject_3b_29Z rfl) rfl (by show 2 * 0 + _ ≤ _; exact Nat.le_of_eq rfl) (hb hby at_189) (fun _ _ => ⟨rfl, e108, (by decide : 6 + 0 ≤ _), (by decide : 33 + 0 ≤ _)⟩)
    dsimp only [Pt.U, Pt.locs, Pt.cells, Pt.slots] at X110 l110 y110 z110 st110 hQ110
    subst l110 y110 z110
    obtain ⟨rfl, Nq110, e110⟩ := hQ110
    have N110 := Fr.app N108 Nq110
    refine own_goT st110 ?_
    show ∃ t o, Steps p.tables e below (T110.setTop (mkF m 192 #[.val (.int i0), .val (.int i1), .val (.int i2), .val (.int i3), .val (.int i4), .val (.int (4 : Int32)), .val (.int cc_3), .val (.int cc_4), .val (.int cc_5), .val (.int cc_6), .val (.ref b82), .val (.ref b_105), .val (.ref b82)] [(.int (1 : Int32))])) t ∧ _
    obtain ⟨fs, hr, hrun, hended, hW⟩ := Jvm.Stand.leaveW X110 hS (by rw [e110]; omega) (v := some (.int (1 : Int32))) (fun h => by rw [Bd.returns] at h; cases h)
    refine ⟨_, _, ?_, hrun, hended, _, _, rfl, ?_, ⟨hW.1, hW.2.1, hW.2.2.1, hW.2.2.2.mono (by decide) (by decide)⟩⟩
    · exact retN X110 hx (t := .boolean) Bd.returns (by simp) (hb hby at_192) hr
    · show Q_rm0 Z _ _ _ _ _ _ _ h0 n0 _ T110.heap _
      rw [e110]
      exact ⟨rfl, N110, K105⟩
set_option maxRecDepth 65536 in
set_option maxHeartbeats 40000000 in
theorem comes_1 {Post : Tables → Env → Array Value → State → Outcome → State → Prop} (hpost : ∀ tb e args s v u, (limb_1_1.after args s (.returned v) u = true ∧ limb_1_2.after args s (.returned v) u = true ∧ True) → ReturnedEndW s (.returned v) u (Jvm.fieldLocs frame_1_writes args s ++ Jvm.arrayLocs frame_1_arrays args s ++ Jvm.staticLocs frame_1_statics s) 24 1152 → Post tb e args s (.returned v) u) :
    ArmFor flags0 classFile x code maxLocals ret World_1 tables_1 room_1 Calls_1 rest_1 Pre_1 Post := by
  intro l hfl _ _ p e ha hc hk s m args below hf hA hF happ hP
  obtain ⟨hcalls, hrest, hpre⟩ := hP
  obtain ⟨-, -, -, hnamed, -, -, -, hat⟩ := (Spec.applies_iff hf).mp happ
  obtain ⟨hg, hn⟩ := and_e (Cond.before_iff.mp (show (Jvm.Cond.and given_1 narrow_1).before args s = true from hpre))
  obtain ⟨g1, g2⟩ := and_e hg
  obtain ⟨g3, g4⟩ := and_e g2
  obtain ⟨g5, g6⟩ := and_e g4
  obtain ⟨g7, g8⟩ := and_e g6
  obtain ⟨g9, g10⟩ := and_e g8
  obtain ⟨w0, w1, w2, w3, w4, rfl⟩ : ∃ w0 w1 w2 w3 w4 : Value, args = #[w0, w1, w2, w3, w4] := by
    have hs : args.size = 5 := by simpa [Cond.value, given_1] using g1
    obtain ⟨L⟩ := args
    match L, hs with
    | [w0, w1, w2, w3, w4], _ => exact ⟨w0, w1, w2, w3, w4, rfl⟩
  have hw := fun d (hd : d ∈ tables_1) => atoms_spec (ws := Jvm.Cond.code x code maxLocals ret :: tables_1) hat d (List.mem_cons_of_mem _ hd)
  have hfit : Fit s := fun {y c} hc i hi => by
    obtain ⟨ha, rfl⟩ := Array.getElem?_eq_some_iff.mp hc
    have q := List.all_eq_true.mp ((Array.all_eq_true_iff_forall_mem.mp hF) _ (Array.getElem_mem ha)) i (List.mem_range.mpr hi)
    simpa [Array.getElem?_eq_getElem hi] using q
  obtain ⟨hsets, hown0⟩ := atoms_of _ (rest_1_c_eq ▸ (show rest_1_c.before _ s = true from hrest))
  have hr0 := Cond.before_iff.mp hown0
  obtain ⟨i0, ei0⟩ := is_v g3
  obtain rfl : w0 = (.int i0) := Option.some.inj ei0
  obtain ⟨i1, ei1⟩ := is_v g5
  obtain rfl : w1 = (.int i1) := Option.some.inj ei1
  obtain ⟨i2, ei2⟩ := is_v g7
  obtain rfl : w2 = (.int i2) := Option.some.inj ei2
  obtain ⟨i3, ei3⟩ := is_v g9
  obtain rfl : w3 = (.int i3) := Option.some.inj ei3
  obtain ⟨i4, ei4⟩ := is_v g10
  obtain rfl : w4 = (.int i4) := Option.some.inj ei4
  have CI : (Jvm.Cond.isInt (Jvm.Term.static "java/lang/String" "COMPACT_STRINGS" "Z")).value _ s none s [] = some true := Cond.before_iff.mp (hsets _ (List.mem_of_getElem? (i := 1) rfl))
  obtain ⟨zc, evc⟩ := is_v CI
  have SCS : Sta s s.heap "java/lang/String" "COMPACT_STRINGS" "Z" (.int zc) := Sta.start evc (Or.inl (hsets _ (List.mem_of_getElem? (i := 0) rfl)))
  have hzc : ¬ (zc = (0 : Int32)) := gotF (Cond.eq_ints evc (Term.int_eval (0 : Int32))) (not_v (Cond.before_iff.mp (hsets _ (List.mem_of_getElem? (i := 2) rfl))))
  have FI : (Jvm.Cond.isRef (Jvm.Term.static "jdk/internal/util/Preconditions" "SIOOBE_FORMATTER" "Ljava/util/function/BiFunction;")).value _ s none s [] = some true := Cond.before_iff.mp (hsets _ (List.mem_of_getElem? (i := 8) rfl))
  obtain ⟨gv, evg, hgv⟩ := isR_v FI
  have SFM : Sta s s.heap "jdk/internal/util/Preconditions" "SIOOBE_FORMATTER" "Ljava/util/function/BiFunction;" gv := Sta.start evg (Or.inl (hsets _ (List.mem_of_getElem? (i := 7) rfl)))
  have OLD := Old.start s
  obtain ⟨n, o, h1, h2, h3, _, L, rfl, ⟨rfl, N, -⟩, hq⟩ := rm0 l s _ hw tables_1 i0 i1 i2 i3 i4 zc gv s.heap s.heap.size (Nat.le_refl _) OLD SCS SFM hzc hgv p e ha hc hk s m _ below hf ((Spec.applies_iff_loose hf).mp happ).1 ⟨rfl, State.Warmed39.refl s, rfl⟩ trivial
  refine ⟨n, _, h1, h2, h3, hpost _ _ _ _ _ _ ⟨Cond.after_iff.mpr rfl, Cond.after_iff.mpr (eq_i res_at (Term.int_eval (1)) rfl), trivial⟩ ⟨hq.1, hq.2.1, hq.2.2.1, (hq.2.2.2.sift fun y hy => Or.inr (N y hy)).mono (by decide) (by decide)⟩⟩
theorem main_1_1 : Claimed_1_1 := comes_1 fun _ _ _ _ _ _ h hF => ⟨h.1, hF⟩
theorem main_1_2 : Claimed_1_2 := comes_1 fun _ _ _ _ _ _ h hF => ⟨h.2.1, hF⟩
end Jvm.Pilot.@@N@@
namespace Jvm.Pilot.@@N@@
open Jvm Jvm.ClassFile Sem Op Lib Jvm.Free Jvm.Stand Jvm.Pilot.@@N@@.Jvm.D
/-! MADE BY PROGRAM (witnessworld.py) out of the Statement's table words and the real class files: 21 classes; the members and pool entries that the words name. The judged class is class 1, her method 2. -/
namespace start1
open Jvm.ClassFile
def u (s : String) : CpInfo := .utf8 (stringToUtf16 s)
/-- a pool by its gaps: so many unusable entries, then the entry; so many at the end -/
def gap : Nat → List CpInfo → List CpInfo
  | 0, r => r
  | n + 1, r => .unusable :: gap n r
def poolList (es : List (Nat × CpInfo)) (last : Nat) : List CpInfo := es.foldr (fun e r => gap e.1 (e.2 :: r)) (gap last [])
def pool (es : List (Nat × CpInfo)) (last : Nat) : Array CpInfo := ⟨poolList es last⟩
def fileOf (pool : Array CpInfo) (this : Nat) (attrs : Array Attribute := #[]) (ms : Array MethodInfo := #[]) (fl : Nat := 33) (sup : Nat := 0) (ifs : Array Nat := #[]) (fds : Array FieldInfo := #[]) : ClassFile where
  minorVersion := 0
  majorVersion := 65
  constantPool := pool
  accessFlags := fl
  thisClass := this
  superClass := sup
  interfaces := ifs
  fields := fds
  methods := ms
  attributes := attrs
def plain (name : String) (sup : Option ClassId) : Class where
  name := name
  kind := .ordinary
  loader := none
  accessFlags := 33
  super := sup
  interfaces := #[]
  cf := none
  fields := #[]
  methods := #[]
  instanceTypes := #[]
  staticTypes := #[]
  resolved := #[]
  callSites := []
  init := .initialized
  statics := none
  mirror := none

def pool0 : Array CpInfo := pool [(5, u "<init>"), (0, u "()V"), (1, .class_ 10), (1, u "java/lang/Object")] 113

def k0c0 : Code := { maxStack := 0, maxLocals := 1, code := object_method_1_code, exceptionTable := #[], attributes := #[] }
def k0m0 : Method := { name := "<init>", desc := "()V", sig := { parameters := [], returnType := none }, accessFlags := 1, code := some k0c0 }
/-- java/lang/Object -/
def k0 : Class := { plain "java/lang/Object" none with
  accessFlags := 33
  interfaces := #[]
  cf := some (fileOf pool0 8 #[] #[{ accessFlags := 1, nameIndex := 5, descriptorIndex := 6, attributes := #[] }] 33 0 #[] #[])
  fields := #[]
  methods := #[k0m0]
  instanceTypes := #[]
  staticTypes := #[]
  resolved := Array.replicate 124 none
  statics := none }

def pool1 : Array CpInfo := pool [(2, .class_ 4), (1, u "java/lang/Object"), (0, u "<init>"), (0, u "()V"), (0, .integer 2147483647), (0, .methodref 9 10), (0, .class_ 11), (0, .nameAndType 12 13), (0, u "com/example/libtardy/libtardy/QueueNameOfPinLaw"), (0, u "allowed"), (0, u "(I)C"), (0, .class_ 15), (0, u "java/lang/String"), (0, .methodref 14 17), (0, .nameAndType 5 18), (0, u "([C)V"), (0, .methodref 20 21), (0, .class_ 22), (0, .nameAndType 23 24), (0, u "com/example/libtardy/libtardy/QueueName"), (0, u "of"), (0, u "(Ljava/lang/String;)Lcom/example/libtardy/libtardy/QueueName;"), (0, .methodref 20 26), (0, .nameAndType 27 28), (0, u "toString"), (0, u "()Ljava/lang/String;"), (0, .methodref 14 30), (0, .nameAndType 31 32), (0, u "equals"), (0, u "(Ljava/lang/Object;)Z"), (3, u "law"), (0, u "(IIIII)Z")] 2

def k1m0 : Method := { name := "<init>", desc := "()V", sig := { parameters := [], returnType := none }, accessFlags := 2, code := none }
def k1c1 : Code := { maxStack := 2, maxLocals := 2, code := method_2_code, exceptionTable := #[], attributes := #[] }
def k1m1 : Method := { name := "allowed", desc := "(I)C", sig := { parameters := [.int], returnType := some .char }, accessFlags := 10, code := some k1c1 }
def k1c2 : Code := { maxStack := 6, maxLocals := 13, code := code, exceptionTable := #[], attributes := #[] }
def k1m2 : Method := { name := "law", desc := "(IIIII)Z", sig := { parameters := [.int, .int, .int, .int, .int], returnType := some .boolean }, accessFlags := 9, code := some k1c2 }
/-- com/example/libtardy/libtardy/QueueNameOfPinLaw -/
def k1 : Class := { plain "com/example/libtardy/libtardy/QueueNameOfPinLaw" (some 0) with
  accessFlags := 49
  interfaces := #[]
  cf := some (fileOf pool1 9 #[] #[{ accessFlags := 2, nameIndex := 5, descriptorIndex := 6, attributes := #[] }, { accessFlags := 10, nameIndex := 12, descriptorIndex := 13, attributes := #[] }, { accessFlags := 9, nameIndex := 36, descriptorIndex := 37, attributes := #[] }] 49 2 #[] #[])
  fields := #[]
  methods := #[k1m0, k1m1, k1m2]
  instanceTypes := #[]
  staticTypes := #[]
  resolved := Array.replicate 40 none
  statics := none }

def pool2 : Array CpInfo := pool [(1, .class_ 2), (0, u "java/io/Serializable"), (0, .class_ 4), (0, u "java/lang/Object")] 2

/-- java/io/Serializable -/
def k2 : Class := { plain "java/io/Serializable" (some 0) with
  accessFlags := 1537
  interfaces := #[]
  cf := some (fileOf pool2 1 #[] #[] 1537 3 #[] #[])
  fields := #[]
  methods := #[]
  instanceTypes := #[]
  staticTypes := #[]
  resolved := Array.replicate 7 none
  statics := none }

def pool3 : Array CpInfo := pool [(1, .class_ 2), (0, u "java/lang/Comparable"), (0, .class_ 4), (0, u "java/lang/Object")] 7

/-- java/lang/Comparable -/
def k3 : Class := { plain "java/lang/Comparable" (some 0) with
  accessFlags := 1537
  interfaces := #[]
  cf := some (fileOf pool3 1 #[] #[] 1537 3 #[] #[])
  fields := #[]
  methods := #[]
  instanceTypes := #[]
  staticTypes := #[]
  resolved := Array.replicate 12 none
  statics := none }

def pool4 : Array CpInfo := pool [(2, .class_ 4), (1, u "java/lang/CharSequence"), (42, .class_ 48), (0, u "java/lang/CharSequence$1CodePointIterator"), (10, .class_ 60), (0, u "java/lang/CharSequence$1CharIterator"), (5, .class_ 67), (0, u "java/lang/Object")] 63

/-- java/lang/CharSequence -/
def k4 : Class := { plain "java/lang/CharSequence" (some 0) with
  accessFlags := 1537
  interfaces := #[]
  cf := some (fileOf pool4 2 #[.nestMembers #[47, 59]] #[] 1537 66 #[] #[])
  fields := #[]
  methods := #[]
  instanceTypes := #[]
  staticTypes := #[]
  resolved := Array.replicate 131 none
  statics := none }

def pool5 : Array CpInfo := pool [(1, .class_ 2), (0, u "java/lang/constant/Constable"), (0, .class_ 4), (0, u "java/lang/Object")] 6

/-- java/lang/constant/Constable -/
def k5 : Class := { plain "java/lang/constant/Constable" (some 0) with
  accessFlags := 1537
  interfaces := #[]
  cf := some (fileOf pool5 1 #[] #[] 1537 3 #[] #[])
  fields := #[]
  methods := #[]
  instanceTypes := #[]
  staticTypes := #[]
  resolved := Array.replicate 11 none
  statics := none }

def pool6 : Array CpInfo := pool [(1, .class_ 2), (0, u "java/lang/constant/ConstantDesc"), (0, .class_ 4), (0, u "java/lang/Object")] 32

/-- java/lang/constant/ConstantDesc -/
def k6 : Class := { plain "java/lang/constant/ConstantDesc" (some 0) with
  accessFlags := 1537
  interfaces := #[]
  cf := some (fileOf pool6 1 #[] #[] 1537 3 #[] #[])
  fields := #[]
  methods := #[]
  instanceTypes := #[]
  staticTypes := #[]
  resolved := Array.replicate 37 none
  statics := none }

def pool7 : Array CpInfo := pool [(1, .methodref 2 3), (0, .class_ 4), (0, .nameAndType 5 6), (0, u "java/lang/Object"), (0, u "<init>"), (0, u "()V"), (2, .fieldref 10 11), (0, .class_ 12), (0, .nameAndType 13 14), (0, u "java/lang/String"), (0, u "value"), (0, u "[B"), (0, .fieldref 10 16), (0, .nameAndType 17 18), (0, u "coder"), (0, u "B"), (2, u "hash"), (0, u "I"), (2, u "hashIsZero"), (0, u "Z"), (0, .methodref 10 28), (0, .nameAndType 5 29), (0, u "([CIILjava/lang/Void;)V"), (8, .fieldref 10 39), (0, .nameAndType 40 26), (0, u "COMPACT_STRINGS"), (1, .class_ 44), (1, u "java/lang/StringUTF16"), (0, u "compress"), (1, .methodref 42 48), (0, .nameAndType 49 50), (0, u "coderFromArrayLen"), (0, u "([BI)B"), (56, .class_ 109), (1, u "java/lang/StringLatin1"), (32, u "()Z"), (34, .methodref 42 178), (0, .nameAndType 45 179), (0, u "([CII)[B"), (154, u "()I"), (0, .methodref 10 336), (0, .nameAndType 17 337), (0, u "()B"), (25, u "([BI)C"), (27, u "(II)V"), (35, u "(I)C"), (64, .methodref 10 493), (0, .nameAndType 494 142), (0, u "isLatin1"), (0, .methodref 107 496), (0, .nameAndType 497 363), (0, u "charAt"), (3, u "checkIndex"), (5, u "length"), (35, u "equals"), (29, u "(Ljava/lang/Object;)Z"), (1, .class_ 576), (0, u "java/lang/CharSequence"), (22, u "CASE_INSENSITIVE_ORDER"), (0, u "Ljava/util/Comparator;"), (91, u "isEmpty"), (317, u "([C)V"), (42, .fieldref 1054 1055), (0, .class_ 1056), (0, .nameAndType 1057 1058), (0, u "jdk/internal/util/Preconditions"), (0, u "SIOOBE_FORMATTER"), (0, u "Ljava/util/function/BiFunction;"), (0, .methodref 1054 1060), (0, .nameAndType 501 1061), (0, u "(IILjava/util/function/BiFunction;)I"), (39, u "serialPersistentFields"), (0, u "[Ljava/io/ObjectStreamField;"), (0, .class_ 1104), (0, u "java/lang/String$CaseInsensitiveComparator"), (1, .class_ 1107), (0, u "java/io/Serializable"), (0, .class_ 1109), (0, u "java/lang/Comparable"), (0, .class_ 1111), (0, u "java/lang/constant/Constable"), (0, .class_ 1113), (0, u "java/lang/constant/ConstantDesc"), (2, u "serialVersionUID"), (0, u "J"), (3, u "REPL"), (0, u "C"), (2, u "LATIN1"), (1, u "UTF16")] 323

def k7m0 : Method := { name := "<init>", desc := "()V", sig := { parameters := [], returnType := none }, accessFlags := 1, code := none }
def k7c1 : Code := { maxStack := 5, maxLocals := 2, code := jdk_42_method_3_code, exceptionTable := #[], attributes := #[] }
def k7m1 : Method := { name := "<init>", desc := "([C)V", sig := { parameters := [(.array .char)], returnType := none }, accessFlags := 1, code := some k7c1 }
def k7c2 : Code := { maxStack := 2, maxLocals := 1, code := jdk_42_method_54_code, exceptionTable := #[], attributes := #[] }
def k7m2 : Method := { name := "length", desc := "()I", sig := { parameters := [], returnType := some .int }, accessFlags := 1, code := some k7c2 }
def k7c3 : Code := { maxStack := 1, maxLocals := 1, code := jdk_42_method_55_code, exceptionTable := #[], attributes := #[] }
def k7m3 : Method := { name := "isEmpty", desc := "()Z", sig := { parameters := [], returnType := some .boolean }, accessFlags := 1, code := some k7c3 }
def k7c4 : Code := { maxStack := 2, maxLocals := 2, code := jdk_42_method_56_code, exceptionTable := #[], attributes := #[] }
def k7m4 : Method := { name := "charAt", desc := "(I)C", sig := { parameters := [.int], returnType := some .char }, accessFlags := 1, code := some k7c4 }
def k7c5 : Code := { maxStack := 2, maxLocals := 3, code := jdk_42_method_66_code, exceptionTable := #[], attributes := #[] }
def k7m5 : Method := { name := "equals", desc := "(Ljava/lang/Object;)Z", sig := { parameters := [(.object "java/lang/Object")], returnType := some .boolean }, accessFlags := 1, code := some k7c5 }
def k7c6 : Code := { maxStack := 4, maxLocals := 6, code := jdk_42_method_149_code, exceptionTable := #[], attributes := #[] }
def k7m6 : Method := { name := "<init>", desc := "([CIILjava/lang/Void;)V", sig := { parameters := [(.array .char), .int, .int, (.object "java/lang/Void")], returnType := none }, accessFlags := 2, code := some k7c6 }
def k7c7 : Code := { maxStack := 1, maxLocals := 1, code := jdk_42_method_152_code, exceptionTable := #[], attributes := #[] }
def k7m7 : Method := { name := "coder", desc := "()B", sig := { parameters := [], returnType := some .byte }, accessFlags := 0, code := some k7c7 }
def k7c8 : Code := { maxStack := 1, maxLocals := 1, code := jdk_42_method_154_code, exceptionTable := #[], attributes := #[] }
def k7m8 : Method := { name := "isLatin1", desc := "()Z", sig := { parameters := [], returnType := some .boolean }, accessFlags := 0, code := some k7c8 }
def k7c9 : Code := { maxStack := 3, maxLocals := 2, code := jdk_42_method_155_code, exceptionTable := #[], attributes := #[] }
def k7m9 : Method := { name := "checkIndex", desc := "(II)V", sig := { parameters := [.int, .int], returnType := none }, accessFlags := 8, code := some k7c9 }
/-- java/lang/String -/
def k7 : Class := { plain "java/lang/String" (some 0) with
  accessFlags := 49
  interfaces := #[2, 3, 4, 5, 6]
  cf := some (fileOf pool7 10 #[.nestMembers #[1103]] #[{ accessFlags := 1, nameIndex := 5, descriptorIndex := 6, attributes := #[] }, { accessFlags := 1, nameIndex := 5, descriptorIndex := 1010, attributes := #[] }, { accessFlags := 1, nameIndex := 507, descriptorIndex := 334, attributes := #[] }, { accessFlags := 1, nameIndex := 692, descriptorIndex := 142, attributes := #[] }, { accessFlags := 1, nameIndex := 497, descriptorIndex := 427, attributes := #[] }, { accessFlags := 1, nameIndex := 543, descriptorIndex := 573, attributes := #[] }, { accessFlags := 2, nameIndex := 5, descriptorIndex := 29, attributes := #[] }, { accessFlags := 0, nameIndex := 17, descriptorIndex := 337, attributes := #[] }, { accessFlags := 0, nameIndex := 494, descriptorIndex := 142, attributes := #[] }, { accessFlags := 8, nameIndex := 501, descriptorIndex := 391, attributes := #[] }] 49 2 #[1106, 1108, 575, 1110, 1112] #[{ accessFlags := 18, nameIndex := 13, descriptorIndex := 14, attributes := #[] }, { accessFlags := 18, nameIndex := 17, descriptorIndex := 18, attributes := #[] }, { accessFlags := 2, nameIndex := 21, descriptorIndex := 22, attributes := #[] }, { accessFlags := 2, nameIndex := 25, descriptorIndex := 26, attributes := #[] }, { accessFlags := 26, nameIndex := 1116, descriptorIndex := 1117, attributes := #[] }, { accessFlags := 24, nameIndex := 40, descriptorIndex := 26, attributes := #[] }, { accessFlags := 26, nameIndex := 1101, descriptorIndex := 1102, attributes := #[] }, { accessFlags := 26, nameIndex := 1121, descriptorIndex := 1122, attributes := #[] }, { accessFlags := 25, nameIndex := 599, descriptorIndex := 600, attributes := #[] }, { accessFlags := 24, nameIndex := 1125, descriptorIndex := 18, attributes := #[] }, { accessFlags := 24, nameIndex := 1127, descriptorIndex := 18, attributes := #[] }])
  fields := #[{ name := "value", type := (.array .byte), accessFlags := 18, slot := 0, constantValue := 0 }, { name := "coder", type := .byte, accessFlags := 18, slot := 1, constantValue := 0 }, { name := "hash", type := .int, accessFlags := 2, slot := 2, constantValue := 0 }, { name := "hashIsZero", type := .boolean, accessFlags := 2, slot := 3, constantValue := 0 }, { name := "serialVersionUID", type := .long, accessFlags := 26, slot := 0, constantValue := 0 }, { name := "COMPACT_STRINGS", type := .boolean, accessFlags := 24, slot := 1, constantValue := 0 }, { name := "serialPersistentFields", type := (.array (.object "java/io/ObjectStreamField")), accessFlags := 26, slot := 2, constantValue := 0 }, { name := "REPL", type := .char, accessFlags := 26, slot := 3, constantValue := 0 }, { name := "CASE_INSENSITIVE_ORDER", type := (.object "java/util/Comparator"), accessFlags := 25, slot := 4, constantValue := 0 }, { name := "LATIN1", type := .byte, accessFlags := 24, slot := 5, constantValue := 0 }, { name := "UTF16", type := .byte, accessFlags := 24, slot := 6, constantValue := 0 }]
  methods := #[k7m0, k7m1, k7m2, k7m3, k7m4, k7m5, k7m6, k7m7, k7m8, k7m9]
  instanceTypes := #[(.array .byte), .byte, .int, .boolean]
  staticTypes := #[.long, .boolean, (.array (.object "java/io/ObjectStreamField")), .char, (.object "java/util/Comparator"), .byte, .byte]
  resolved := Array.replicate 1451 none
  statics := some 0 }

def pool8 : Array CpInfo := pool [(6, .class_ 8), (1, u "java/lang/Object"), (0, u "<init>"), (0, u "()V"), (1, .class_ 14), (1, u "java/lang/StringUTF16"), (31, u "$assertionsDisabled"), (0, u "Z"), (13, u "HI_BYTE_SHIFT"), (0, u "I"), (2, u "LO_BYTE_SHIFT"), (49, .methodref 12 116), (0, .nameAndType 117 118), (0, u "compress"), (0, u "([CI[BII)I"), (3, u "([CII)[B"), (138, u "coderFromArrayLen"), (0, u "([BI)B"), (106, .class_ 371), (1, u "java/lang/StringUTF16$LinesSpliterator"), (58, u "MAX_LENGTH"), (196, .class_ 628), (0, u "java/lang/StringUTF16$CodePointsSpliterator"), (0, .class_ 630), (0, u "java/lang/StringUTF16$CharsSpliterator")] 4

def k8m0 : Method := { name := "<init>", desc := "()V", sig := { parameters := [], returnType := none }, accessFlags := 0, code := none }
def k8c1 : Code := { maxStack := 2, maxLocals := 2, code := jdk_52_method_15_code, exceptionTable := #[], attributes := #[] }
def k8m1 : Method := { name := "coderFromArrayLen", desc := "([BI)B", sig := { parameters := [(.array .byte), .int], returnType := some .byte }, accessFlags := 8, code := some k8c1 }
def k8c2 : Code := { maxStack := 5, maxLocals := 6, code := jdk_52_method_16_code, exceptionTable := #[], attributes := #[] }
def k8m2 : Method := { name := "compress", desc := "([CII)[B", sig := { parameters := [(.array .char), .int, .int], returnType := some (.array .byte) }, accessFlags := 9, code := some k8c2 }
def k8c3 : Code := { maxStack := 3, maxLocals := 7, code := jdk_52_method_21_code, exceptionTable := #[], attributes := #[] }
def k8m3 : Method := { name := "compress", desc := "([CI[BII)I", sig := { parameters := [(.array .char), .int, (.array .byte), .int, .int], returnType := some .int }, accessFlags := 9, code := some k8c3 }
/-- java/lang/StringUTF16 -/
def k8 : Class := { plain "java/lang/StringUTF16" (some 0) with
  accessFlags := 48
  interfaces := #[]
  cf := some (fileOf pool8 12 #[.nestMembers #[627, 629, 369]] #[{ accessFlags := 0, nameIndex := 9, descriptorIndex := 10, attributes := #[] }, { accessFlags := 8, nameIndex := 261, descriptorIndex := 262, attributes := #[] }, { accessFlags := 9, nameIndex := 117, descriptorIndex := 122, attributes := #[] }, { accessFlags := 9, nameIndex := 117, descriptorIndex := 118, attributes := #[] }] 48 6 #[] #[{ accessFlags := 26, nameIndex := 61, descriptorIndex := 62, attributes := #[] }, { accessFlags := 26, nameIndex := 65, descriptorIndex := 62, attributes := #[] }, { accessFlags := 24, nameIndex := 430, descriptorIndex := 62, attributes := #[] }, { accessFlags := 4120, nameIndex := 46, descriptorIndex := 47, attributes := #[] }])
  fields := #[{ name := "HI_BYTE_SHIFT", type := .int, accessFlags := 26, slot := 0, constantValue := 0 }, { name := "LO_BYTE_SHIFT", type := .int, accessFlags := 26, slot := 1, constantValue := 0 }, { name := "MAX_LENGTH", type := .int, accessFlags := 24, slot := 2, constantValue := 0 }, { name := "$assertionsDisabled", type := .boolean, accessFlags := 4120, slot := 3, constantValue := 0 }]
  methods := #[k8m0, k8m1, k8m2, k8m3]
  instanceTypes := #[]
  staticTypes := #[.int, .int, .int, .boolean]
  resolved := Array.replicate 635 none
  statics := none }

def pool9 : Array CpInfo := pool [(1, .methodref 2 3), (0, .class_ 4), (0, .nameAndType 5 6), (0, u "java/lang/Object"), (0, u "<init>"), (0, u "()V"), (0, .fieldref 8 9), (0, .class_ 10), (0, .nameAndType 11 12), (0, u "com/example/libtardy/libtardy/QueueName"), (0, u "name"), (0, u "Ljava/lang/String;"), (0, .string 11), (0, .methodref 15 16), (0, .class_ 17), (0, .nameAndType 18 19), (0, u "java/util/Objects"), (0, u "requireNonNull"), (0, u "(Ljava/lang/Object;Ljava/lang/String;)Ljava/lang/Object;"), (0, .methodref 21 22), (0, .class_ 23), (0, .nameAndType 24 25), (0, u "java/lang/String"), (0, u "isEmpty"), (0, u "()Z"), (0, .methodref 21 27), (0, .nameAndType 28 29), (0, u "length"), (0, u "()I"), (7, .nameAndType 5 38), (0, u "(Ljava/lang/String;)V"), (0, .methodref 21 40), (0, .nameAndType 41 42), (0, u "charAt"), (0, u "(I)C"), (0, .methodref 8 44), (0, .nameAndType 45 46), (0, u "isAllowed"), (0, u "(C)Z"), (16, .methodref 8 37), (3, u "MAX_LENGTH"), (0, u "I"), (4, u "of"), (0, u "(Ljava/lang/String;)Lcom/example/libtardy/libtardy/QueueName;"), (3, u "toString"), (0, u "()Ljava/lang/String;")] 19

def k9c0 : Code := { maxStack := 2, maxLocals := 2, code := prog_6_method_1_code, exceptionTable := #[], attributes := #[] }
def k9m0 : Method := { name := "<init>", desc := "(Ljava/lang/String;)V", sig := { parameters := [(.object "java/lang/String")], returnType := none }, accessFlags := 2, code := some k9c0 }
def k9c1 : Code := { maxStack := 8, maxLocals := 2, code := prog_6_method_2_code, exceptionTable := #[], attributes := #[] }
def k9m1 : Method := { name := "of", desc := "(Ljava/lang/String;)Lcom/example/libtardy/libtardy/QueueName;", sig := { parameters := [(.object "java/lang/String")], returnType := some (.object "com/example/libtardy/libtardy/QueueName") }, accessFlags := 8, code := some k9c1 }
def k9c2 : Code := { maxStack := 2, maxLocals := 1, code := prog_6_method_3_code, exceptionTable := #[], attributes := #[] }
def k9m2 : Method := { name := "isAllowed", desc := "(C)Z", sig := { parameters := [.char], returnType := some .boolean }, accessFlags := 10, code := some k9c2 }
def k9c3 : Code := { maxStack := 1, maxLocals := 1, code := prog_6_method_5_code, exceptionTable := #[], attributes := #[] }
def k9m3 : Method := { name := "toString", desc := "()Ljava/lang/String;", sig := { parameters := [], returnType := some (.object "java/lang/String") }, accessFlags := 1, code := some k9c3 }
/-- com/example/libtardy/libtardy/QueueName -/
def k9 : Class := { plain "com/example/libtardy/libtardy/QueueName" (some 0) with
  accessFlags := 32
  interfaces := #[]
  cf := some (fileOf pool9 8 #[] #[{ accessFlags := 2, nameIndex := 5, descriptorIndex := 38, attributes := #[] }, { accessFlags := 8, nameIndex := 73, descriptorIndex := 74, attributes := #[] }, { accessFlags := 10, nameIndex := 45, descriptorIndex := 46, attributes := #[] }, { accessFlags := 1, nameIndex := 78, descriptorIndex := 79, attributes := #[] }] 32 2 #[] #[{ accessFlags := 24, nameIndex := 67, descriptorIndex := 68, attributes := #[] }, { accessFlags := 18, nameIndex := 11, descriptorIndex := 12, attributes := #[] }])
  fields := #[{ name := "MAX_LENGTH", type := .int, accessFlags := 24, slot := 0, constantValue := 0 }, { name := "name", type := (.object "java/lang/String"), accessFlags := 18, slot := 0, constantValue := 0 }]
  methods := #[k9m0, k9m1, k9m2, k9m3]
  instanceTypes := #[(.object "java/lang/String")]
  staticTypes := #[.int]
  resolved := Array.replicate 99 none
  statics := none }

def pool10 : Array CpInfo := pool [(2, .class_ 4), (1, u "java/lang/Object"), (0, u "<init>"), (0, u "()V"), (35, .class_ 44), (1, u "java/util/Objects"), (0, u "requireNonNull"), (48, u "(Ljava/lang/Object;Ljava/lang/String;)Ljava/lang/Object;")] 89

def k10m0 : Method := { name := "<init>", desc := "()V", sig := { parameters := [], returnType := none }, accessFlags := 2, code := none }
def k10c1 : Code := { maxStack := 3, maxLocals := 2, code := jdk_31_method_11_code, exceptionTable := #[], attributes := #[] }
def k10m1 : Method := { name := "requireNonNull", desc := "(Ljava/lang/Object;Ljava/lang/String;)Ljava/lang/Object;", sig := { parameters := [(.object "java/lang/Object"), (.object "java/lang/String")], returnType := some (.object "java/lang/Object") }, accessFlags := 9, code := some k10c1 }
/-- java/util/Objects -/
def k10 : Class := { plain "java/util/Objects" (some 0) with
  accessFlags := 49
  interfaces := #[]
  cf := some (fileOf pool10 42 #[] #[{ accessFlags := 2, nameIndex := 5, descriptorIndex := 6, attributes := #[] }, { accessFlags := 9, nameIndex := 45, descriptorIndex := 94, attributes := #[] }] 49 2 #[] #[])
  fields := #[]
  methods := #[k10m0, k10m1]
  instanceTypes := #[]
  staticTypes := #[]
  resolved := Array.replicate 184 none
  statics := none }

def pool11 : Array CpInfo := pool [(1, .class_ 2), (0, u "java/lang/String"), (1, .class_ 6), (1, u "java/lang/Object"), (0, u "<init>"), (0, u "()V"), (0, .methodref 1 10), (0, .nameAndType 11 12), (0, u "checkIndex"), (0, u "(II)V"), (1, .class_ 16), (1, u "java/lang/StringLatin1"), (36, u "([BI)C"), (67, u "$assertionsDisabled"), (0, u "Z"), (98, .class_ 223), (1, u "java/lang/StringLatin1$LinesSpliterator"), (28, u "charAt"), (137, .class_ 391), (0, u "java/lang/StringLatin1$CharsSpliterator")] 3

def k11m0 : Method := { name := "<init>", desc := "()V", sig := { parameters := [], returnType := none }, accessFlags := 0, code := none }
def k11c1 : Code := { maxStack := 2, maxLocals := 2, code := jdk_43_method_2_code, exceptionTable := #[], attributes := #[] }
def k11m1 : Method := { name := "charAt", desc := "([BI)C", sig := { parameters := [(.array .byte), .int], returnType := some .char }, accessFlags := 9, code := some k11c1 }
/-- java/lang/StringLatin1 -/
def k11 : Class := { plain "java/lang/StringLatin1" (some 0) with
  accessFlags := 48
  interfaces := #[]
  cf := some (fileOf pool11 14 #[.nestMembers #[390, 221]] #[{ accessFlags := 0, nameIndex := 7, descriptorIndex := 8, attributes := #[] }, { accessFlags := 9, nameIndex := 252, descriptorIndex := 53, attributes := #[] }] 48 4 #[] #[{ accessFlags := 4120, nameIndex := 121, descriptorIndex := 122, attributes := #[] }])
  fields := #[{ name := "$assertionsDisabled", type := .boolean, accessFlags := 4120, slot := 0, constantValue := 0 }]
  methods := #[k11m0, k11m1]
  instanceTypes := #[]
  staticTypes := #[.boolean]
  resolved := Array.replicate 395 none
  statics := none }

def pool12 : Array CpInfo := pool [(2, .class_ 4), (1, u "java/lang/Object"), (0, u "<init>"), (0, u "()V"), (17, .class_ 26), (1, u "jdk/internal/util/Preconditions"), (6, u "checkIndex"), (21, .class_ 56), (0, u "jdk/internal/util/Preconditions$4"), (57, .class_ 115), (0, u "jdk/internal/util/Preconditions$1"), (7, u "SIOOBE_FORMATTER"), (0, u "Ljava/util/function/BiFunction;"), (0, .class_ 126), (0, u "jdk/internal/util/Preconditions$2"), (3, u "AIOOBE_FORMATTER"), (0, .class_ 132), (0, u "jdk/internal/util/Preconditions$3"), (3, u "IOOBE_FORMATTER"), (41, u "(IILjava/util/function/BiFunction;)I")] 15

def k12m0 : Method := { name := "<init>", desc := "()V", sig := { parameters := [], returnType := none }, accessFlags := 1, code := none }
def k12c1 : Code := { maxStack := 3, maxLocals := 3, code := jdk_41_method_11_code, exceptionTable := #[], attributes := #[] }
def k12m1 : Method := { name := "checkIndex", desc := "(IILjava/util/function/BiFunction;)I", sig := { parameters := [.int, .int, (.object "java/util/function/BiFunction")], returnType := some .int }, accessFlags := 9, code := some k12c1 }
/-- jdk/internal/util/Preconditions -/
def k12 : Class := { plain "jdk/internal/util/Preconditions" (some 0) with
  accessFlags := 33
  interfaces := #[]
  cf := some (fileOf pool12 24 #[.nestMembers #[55, 131, 125, 114]] #[{ accessFlags := 1, nameIndex := 5, descriptorIndex := 6, attributes := #[] }, { accessFlags := 9, nameIndex := 33, descriptorIndex := 178, attributes := #[] }] 33 2 #[] #[{ accessFlags := 25, nameIndex := 123, descriptorIndex := 124, attributes := #[] }, { accessFlags := 25, nameIndex := 130, descriptorIndex := 124, attributes := #[] }, { accessFlags := 25, nameIndex := 136, descriptorIndex := 124, attributes := #[] }])
  fields := #[{ name := "SIOOBE_FORMATTER", type := (.object "java/util/function/BiFunction"), accessFlags := 25, slot := 0, constantValue := 0 }, { name := "AIOOBE_FORMATTER", type := (.object "java/util/function/BiFunction"), accessFlags := 25, slot := 1, constantValue := 0 }, { name := "IOOBE_FORMATTER", type := (.object "java/util/function/BiFunction"), accessFlags := 25, slot := 2, constantValue := 0 }]
  methods := #[k12m0, k12m1]
  instanceTypes := #[]
  staticTypes := #[(.object "java/util/function/BiFunction"), (.object "java/util/function/BiFunction"), (.object "java/util/function/BiFunction")]
  resolved := Array.replicate 194 none
  statics := some 1 }

def pool13 : Array CpInfo := pool [(9, u "<init>"), (6, .class_ 18), (1, u "java/lang/Object"), (0, u "()V"), (1, .class_ 23), (1, u "jdk/internal/util/ArraysSupport"), (0, u "LOG2_ARRAY_LONG_INDEX_SCALE"), (0, u "I"), (2, u "U"), (0, u "Ljdk/internal/misc/Unsafe;"), (8, u "BIG_ENDIAN"), (0, u "Z"), (8, u "LOG2_BYTE_BIT_SIZE"), (4, u "LOG2_ARRAY_INT_INDEX_SCALE"), (54, u "JLA"), (0, u "Ljdk/internal/access/JavaLangAccess;"), (11, u "LOG2_ARRAY_BOOLEAN_INDEX_SCALE"), (9, u "LOG2_ARRAY_BYTE_INDEX_SCALE"), (5, u "LOG2_ARRAY_CHAR_INDEX_SCALE"), (5, u "LOG2_ARRAY_SHORT_INDEX_SCALE"), (18, u "LOG2_ARRAY_FLOAT_INDEX_SCALE"), (24, u "LOG2_ARRAY_DOUBLE_INDEX_SCALE"), (89, u "T_BOOLEAN"), (2, u "T_CHAR"), (1, u "T_FLOAT"), (1, u "T_DOUBLE"), (1, u "T_BYTE"), (1, u "T_SHORT"), (1, u "T_INT"), (1, u "T_LONG"), (1, u "SOFT_MAX_ARRAY_LENGTH")] 83

def k13m0 : Method := { name := "<init>", desc := "()V", sig := { parameters := [], returnType := none }, accessFlags := 2, code := none }
/-- jdk/internal/util/ArraysSupport -/
def k13 : Class := { plain "jdk/internal/util/ArraysSupport" (some 0) with
  accessFlags := 33
  interfaces := #[]
  cf := some (fileOf pool13 21 #[] #[{ accessFlags := 2, nameIndex := 9, descriptorIndex := 19, attributes := #[] }] 33 16 #[] #[{ accessFlags := 24, nameIndex := 28, descriptorIndex := 29, attributes := #[] }, { accessFlags := 26, nameIndex := 38, descriptorIndex := 39, attributes := #[] }, { accessFlags := 25, nameIndex := 121, descriptorIndex := 25, attributes := #[] }, { accessFlags := 25, nameIndex := 131, descriptorIndex := 25, attributes := #[] }, { accessFlags := 25, nameIndex := 137, descriptorIndex := 25, attributes := #[] }, { accessFlags := 25, nameIndex := 143, descriptorIndex := 25, attributes := #[] }, { accessFlags := 25, nameIndex := 53, descriptorIndex := 25, attributes := #[] }, { accessFlags := 25, nameIndex := 24, descriptorIndex := 25, attributes := #[] }, { accessFlags := 25, nameIndex := 162, descriptorIndex := 25, attributes := #[] }, { accessFlags := 25, nameIndex := 187, descriptorIndex := 25, attributes := #[] }, { accessFlags := 26, nameIndex := 48, descriptorIndex := 25, attributes := #[] }, { accessFlags := 25, nameIndex := 277, descriptorIndex := 25, attributes := #[] }, { accessFlags := 25, nameIndex := 280, descriptorIndex := 25, attributes := #[] }, { accessFlags := 25, nameIndex := 282, descriptorIndex := 25, attributes := #[] }, { accessFlags := 25, nameIndex := 284, descriptorIndex := 25, attributes := #[] }, { accessFlags := 25, nameIndex := 286, descriptorIndex := 25, attributes := #[] }, { accessFlags := 25, nameIndex := 288, descriptorIndex := 25, attributes := #[] }, { accessFlags := 25, nameIndex := 290, descriptorIndex := 25, attributes := #[] }, { accessFlags := 25, nameIndex := 292, descriptorIndex := 25, attributes := #[] }, { accessFlags := 26, nameIndex := 108, descriptorIndex := 109, attributes := #[] }, { accessFlags := 25, nameIndex := 294, descriptorIndex := 25, attributes := #[] }])
  fields := #[{ name := "U", type := (.object "jdk/internal/misc/Unsafe"), accessFlags := 24, slot := 0, constantValue := 0 }, { name := "BIG_ENDIAN", type := .boolean, accessFlags := 26, slot := 1, constantValue := 0 }, { name := "LOG2_ARRAY_BOOLEAN_INDEX_SCALE", type := .int, accessFlags := 25, slot := 2, constantValue := 0 }, { name := "LOG2_ARRAY_BYTE_INDEX_SCALE", type := .int, accessFlags := 25, slot := 3, constantValue := 0 }, { name := "LOG2_ARRAY_CHAR_INDEX_SCALE", type := .int, accessFlags := 25, slot := 4, constantValue := 0 }, { name := "LOG2_ARRAY_SHORT_INDEX_SCALE", type := .int, accessFlags := 25, slot := 5, constantValue := 0 }, { name := "LOG2_ARRAY_INT_INDEX_SCALE", type := .int, accessFlags := 25, slot := 6, constantValue := 0 }, { name := "LOG2_ARRAY_LONG_INDEX_SCALE", type := .int, accessFlags := 25, slot := 7, constantValue := 0 }, { name := "LOG2_ARRAY_FLOAT_INDEX_SCALE", type := .int, accessFlags := 25, slot := 8, constantValue := 0 }, { name := "LOG2_ARRAY_DOUBLE_INDEX_SCALE", type := .int, accessFlags := 25, slot := 9, constantValue := 0 }, { name := "LOG2_BYTE_BIT_SIZE", type := .int, accessFlags := 26, slot := 10, constantValue := 0 }, { name := "T_BOOLEAN", type := .int, accessFlags := 25, slot := 11, constantValue := 0 }, { name := "T_CHAR", type := .int, accessFlags := 25, slot := 12, constantValue := 0 }, { name := "T_FLOAT", type := .int, accessFlags := 25, slot := 13, constantValue := 0 }, { name := "T_DOUBLE", type := .int, accessFlags := 25, slot := 14, constantValue := 0 }, { name := "T_BYTE", type := .int, accessFlags := 25, slot := 15, constantValue := 0 }, { name := "T_SHORT", type := .int, accessFlags := 25, slot := 16, constantValue := 0 }, { name := "T_INT", type := .int, accessFlags := 25, slot := 17, constantValue := 0 }, { name := "T_LONG", type := .int, accessFlags := 25, slot := 18, constantValue := 0 }, { name := "JLA", type := (.object "jdk/internal/access/JavaLangAccess"), accessFlags := 26, slot := 19, constantValue := 0 }, { name := "SOFT_MAX_ARRAY_LENGTH", type := .int, accessFlags := 25, slot := 20, constantValue := 0 }]
  methods := #[k13m0]
  instanceTypes := #[]
  staticTypes := #[(.object "jdk/internal/misc/Unsafe"), .boolean, .int, .int, .int, .int, .int, .int, .int, .int, .int, .int, .int, .int, .int, .int, .int, .int, .int, (.object "jdk/internal/access/JavaLangAccess"), .int]
  resolved := Array.replicate 378 none
  statics := none }

def pool14 : Array CpInfo := pool [(1, u "java/lang/Cloneable"), (0, .class_ 1), (0, u "java/lang/Object"), (0, .class_ 3)] 3

/-- java/lang/Cloneable -/
def k14 : Class := { plain "java/lang/Cloneable" (some 0) with
  accessFlags := 1537
  interfaces := #[]
  cf := some (fileOf pool14 2 #[] #[] 1537 4 #[] #[])
  fields := #[]
  methods := #[]
  instanceTypes := #[]
  staticTypes := #[]
  resolved := Array.replicate 8 none
  statics := none }

/-- the primitive byte -/
def k15 : Class := { plain "byte" none with kind := .primitive 'B', accessFlags := 0x411 }
/-- [B -/
def k16 : Class := { plain "[B" (some 0) with kind := .array 15 .byte, interfaces := #[14, 2], accessFlags := 1041 }

/-- the primitive char -/
def k17 : Class := { plain "char" none with kind := .primitive 'C', accessFlags := 0x411 }
/-- [C -/
def k18 : Class := { plain "[C" (some 0) with kind := .array 17 .char, interfaces := #[14, 2], accessFlags := 1041 }

/-- the primitive int -/
def k19 : Class := { plain "int" none with kind := .primitive 'I', accessFlags := 0x411 }
/-- [I -/
def k20 : Class := { plain "[I" (some 0) with kind := .array 19 .int, interfaces := #[14, 2], accessFlags := 1041 }

def heap : Heap := #[{ cls := 7, slots := #[.long 0, .int 1, .null, .int 0, .null, .int 0, .int 0], vm := .statics 7 },
  { cls := 12, slots := #[.null, .null, .null], vm := .statics 12 }]
def classes : Array Class := #[k0, k1, k2, k3, k4, k5, k6, k7, k8, k9, k10, k11, k12, k13, k14, k15, k16, k17, k18, k19, k20]
def interned : List (Array UInt16 × Addr) := []
def slotsUsed : Nat := 10
def theMethod : MethodId := ⟨1, 2⟩
def args0 : Array Value := #[.int 5, .int 7, .int 6, .int 9, .int 3]
def aboutOver (below : List Frame) : State where
  vm := { classes := classes, interned := interned.toArray }
  heap := heap
  slotsUsed := slotsUsed
  threads := #[{ frames := .invoking theMethod args0 :: below }]
def below0 : List Frame := [.native { method := ⟨0, 0⟩, args := #[] }]
def about1 : State := aboutOver below0
def p0 : Program := .bare "" "" ""
def e0 : Env := launch0.env 0 0 0
theorem w_frames : about1.frames = Frame.invoking theMethod args0 :: below0 := rfl
set_option maxRecDepth 65536 in
theorem w_args : argsFit about1.vm theMethod args0 = true := by decide +kernel
set_option maxRecDepth 65536 in
theorem w_heap : heapFits about1 = true := by decide +kernel
set_option maxRecDepth 65536 in
theorem w_runnable : about1.curStatus? = some .runnable := by decide +kernel
set_option maxRecDepth 65536 in
theorem w_alone : about1.alone = true := by decide +kernel
set_option maxRecDepth 65536 in
theorem w_named : about1.methodNamed? x = some theMethod := by decide +kernel
set_option maxRecDepth 65536 in
theorem w_hears : about1.hears theMethod below0 = true := by decide +kernel
set_option maxRecDepth 65536 in
theorem w_ripe : about1.ripe theMethod args0 below0 = true := by decide +kernel
theorem w_running : about1.status = .running := rfl
set_option maxRecDepth 65536 in
theorem w_room : about1.hasRoom e0.platform room_1 = true :=
  launch0.hasRoom_least _ room_1 (by decide +kernel) (by decide +kernel) (by decide +kernel) (by decide +kernel) (by decide +kernel) (by decide +kernel)
theorem allAtoms_all (ts : List Jvm.Cond) (a : Array Jvm.Value) (st : Jvm.State) : (allAtoms ts).before a st = ts.all (fun c => c.before a st) := by
  induction ts with
  | nil => rfl
  | cons c t ih =>
    show (Jvm.Cond.and c (allAtoms t)).before a st = _
    rw [Jvm.Cond.before_and, ih, List.all_cons]
def words1 : List Jvm.Cond := Jvm.Cond.code x code maxLocals ret :: tables_1
/-- a 'code' word, met by the world's own term for the bytes: nothing is compared byte by byte -/
theorem code_word {y : MethodName} {bytes : ByteArray} {mx : Nat} {rt : Option FieldType} {a : Array Value} {s : State} {m : MethodId} {meth : Method} {c : Code} (h1 : s.methodNamed? y = some m) (h2 : s.vm.method? m = some meth) (h3 : meth.code = some c) (h4 : c.code = bytes)
    (h5 : (c.maxLocals == mx && c.exceptionTable.isEmpty && decide (c.maxStack ≤ mostOperands) && decide (meth.sig.returnType = rt) && !meth.locks && decide (parseMethodDescriptor y.desc = some meth.sig)) = true) : (Jvm.Cond.code y bytes mx rt).before a s = true := by
  simp only [Bool.and_eq_true, beq_iff_eq, Bool.not_eq_true', decide_eq_true_eq] at h5
  obtain ⟨⟨⟨⟨⟨g1, g2⟩, g3⟩, g4⟩, g5⟩, g6⟩ := h5
  simp [Cond.before, Cond.holds, Cond.value, h1, h2, h3, h4, g1, g2, g3, g4, g5, g6]
def isCode : Jvm.Cond → Bool
  | .code _ _ _ _ => true
  | _ => false
theorem all_split {L : List Jvm.Cond} {P : Jvm.Cond → Bool} (h1 : L.all (fun c => isCode c || P c) = true) (h2 : ∀ c ∈ L.filter isCode, P c = true) : L.all P = true := by
  refine List.all_eq_true.mpr fun c hc => ?_
  have h := List.all_eq_true.mp h1 c hc
  rcases Bool.eq_false_or_eq_true (isCode c) with hi | hi
  · exact h2 c (List.mem_filter.mpr ⟨hc, hi⟩)
  · simpa [hi] using h
set_option maxRecDepth 65536 in
theorem w_c0 : (Jvm.Cond.code x code maxLocals ret).before args0 about1 = true := code_word (m := ⟨1, 2⟩) (meth := k1m2) (c := k1c2) (by decide +kernel) rfl rfl rfl (by decide +kernel)
set_option maxRecDepth 65536 in
theorem w_c1 : (Jvm.Cond.code ({ cls := "com/example/libtardy/libtardy/QueueNameOfPinLaw", name := "allowed", desc := "(I)C" } : Jvm.MethodName) method_2_code (2 : Nat) (Option.some Jvm.ClassFile.FieldType.char)).before args0 about1 = true := code_word (m := ⟨1, 1⟩) (meth := k1m1) (c := k1c1) (by decide +kernel) rfl rfl rfl (by decide +kernel)
set_option maxRecDepth 65536 in
theorem w_c2 : (Jvm.Cond.code ({ cls := "java/lang/String", name := "<init>", desc := "([C)V" } : Jvm.MethodName) jdk_42_method_3_code (2 : Nat) (Option.none : Option Jvm.ClassFile.FieldType)).before args0 about1 = true := code_word (m := ⟨7, 1⟩) (meth := k7m1) (c := k7c1) (by decide +kernel) rfl rfl rfl (by decide +kernel)
set_option maxRecDepth 65536 in
theorem w_c3 : (Jvm.Cond.code ({ cls := "java/lang/String", name := "<init>", desc := "([CIILjava/lang/Void;)V" } : Jvm.MethodName) jdk_42_method_149_code (6 : Nat) (Option.none : Option Jvm.ClassFile.FieldType)).before args0 about1 = true := code_word (m := ⟨7, 6⟩) (meth := k7m6) (c := k7c6) (by decide +kernel) rfl rfl rfl (by decide +kernel)
set_option maxRecDepth 65536 in
theorem w_c4 : (Jvm.Cond.code ({ cls := "java/lang/Object", name := "<init>", desc := "()V" } : Jvm.MethodName) object_method_1_code (1 : Nat) (Option.none : Option Jvm.ClassFile.FieldType)).before args0 about1 = true := code_word (m := ⟨0, 0⟩) (meth := k0m0) (c := k0c0) (by decide +kernel) rfl rfl rfl (by decide +kernel)
set_option maxRecDepth 65536 in
theorem w_c5 : (Jvm.Cond.code ({ cls := "java/lang/StringUTF16", name := "compress", desc := "([CII)[B" } : Jvm.MethodName) jdk_52_method_16_code (6 : Nat) (Option.some (Jvm.ClassFile.FieldType.array Jvm.ClassFile.FieldType.byte))).before args0 about1 = true := code_word (m := ⟨8, 2⟩) (meth := k8m2) (c := k8c2) (by decide +kernel) rfl rfl rfl (by decide +kernel)
set_option maxRecDepth 65536 in
theorem w_c6 : (Jvm.Cond.code ({ cls := "java/lang/StringUTF16", name := "compress", desc := "([CI[BII)I" } : Jvm.MethodName) jdk_52_method_21_code (7 : Nat) (Option.some Jvm.ClassFile.FieldType.int)).before args0 about1 = true := code_word (m := ⟨8, 3⟩) (meth := k8m3) (c := k8c3) (by decide +kernel) rfl rfl rfl (by decide +kernel)
set_option maxRecDepth 65536 in
theorem w_c7 : (Jvm.Cond.code ({ cls := "java/lang/StringUTF16", name := "coderFromArrayLen", desc := "([BI)B" } : Jvm.MethodName) jdk_52_method_15_code (2 : Nat) (Option.some Jvm.ClassFile.FieldType.byte)).before args0 about1 = true := code_word (m := ⟨8, 1⟩) (meth := k8m1) (c := k8c1) (by decide +kernel) rfl rfl rfl (by decide +kernel)
set_option maxRecDepth 65536 in
theorem w_c8 : (Jvm.Cond.code ({ cls := "com/example/libtardy/libtardy/QueueName", name := "of", desc := "(Ljava/lang/String;)Lcom/example/libtardy/libtardy/QueueName;" } : Jvm.MethodName) prog_6_method_2_code (2 : Nat) (Option.some (Jvm.ClassFile.FieldType.object "com/example/libtardy/libtardy/QueueName"))).before args0 about1 = true := code_word (m := ⟨9, 1⟩) (meth := k9m1) (c := k9c1) (by decide +kernel) rfl rfl rfl (by decide +kernel)
set_option maxRecDepth 65536 in
theorem w_c9 : (Jvm.Cond.code ({ cls := "java/util/Objects", name := "requireNonNull", desc := "(Ljava/lang/Object;Ljava/lang/String;)Ljava/lang/Object;" } : Jvm.MethodName) jdk_31_method_11_code (2 : Nat) (Option.some (Jvm.ClassFile.FieldType.object "java/lang/Object"))).before args0 about1 = true := code_word (m := ⟨10, 1⟩) (meth := k10m1) (c := k10c1) (by decide +kernel) rfl rfl rfl (by decide +kernel)
set_option maxRecDepth 65536 in
theorem w_c10 : (Jvm.Cond.code ({ cls := "java/lang/String", name := "isEmpty", desc := "()Z" } : Jvm.MethodName) jdk_42_method_55_code (1 : Nat) (Option.some Jvm.ClassFile.FieldType.boolean)).before args0 about1 = true := code_word (m := ⟨7, 3⟩) (meth := k7m3) (c := k7c3) (by decide +kernel) rfl rfl rfl (by decide +kernel)
set_option maxRecDepth 65536 in
theorem w_c11 : (Jvm.Cond.code ({ cls := "java/lang/String", name := "length", desc := "()I" } : Jvm.MethodName) jdk_42_method_54_code (1 : Nat) (Option.some Jvm.ClassFile.FieldType.int)).before args0 about1 = true := code_word (m := ⟨7, 2⟩) (meth := k7m2) (c := k7c2) (by decide +kernel) rfl rfl rfl (by decide +kernel)
set_option maxRecDepth 65536 in
theorem w_c12 : (Jvm.Cond.code ({ cls := "java/lang/String", name := "coder", desc := "()B" } : Jvm.MethodName) jdk_42_method_152_code (1 : Nat) (Option.some Jvm.ClassFile.FieldType.byte)).before args0 about1 = true := code_word (m := ⟨7, 7⟩) (meth := k7m7) (c := k7c7) (by decide +kernel) rfl rfl rfl (by decide +kernel)
set_option maxRecDepth 65536 in
theorem w_c13 : (Jvm.Cond.code ({ cls := "java/lang/String", name := "charAt", desc := "(I)C" } : Jvm.MethodName) jdk_42_method_56_code (2 : Nat) (Option.some Jvm.ClassFile.FieldType.char)).before args0 about1 = true := code_word (m := ⟨7, 4⟩) (meth := k7m4) (c := k7c4) (by decide +kernel) rfl rfl rfl (by decide +kernel)
set_option maxRecDepth 65536 in
theorem w_c14 : (Jvm.Cond.code ({ cls := "java/lang/String", name := "isLatin1", desc := "()Z" } : Jvm.MethodName) jdk_42_method_154_code (1 : Nat) (Option.some Jvm.ClassFile.FieldType.boolean)).before args0 about1 = true := code_word (m := ⟨7, 8⟩) (meth := k7m8) (c := k7c8) (by decide +kernel) rfl rfl rfl (by decide +kernel)
set_option maxRecDepth 65536 in
theorem w_c15 : (Jvm.Cond.code ({ cls := "java/lang/StringLatin1", name := "charAt", desc := "([BI)C" } : Jvm.MethodName) jdk_43_method_2_code (2 : Nat) (Option.some Jvm.ClassFile.FieldType.char)).before args0 about1 = true := code_word (m := ⟨11, 1⟩) (meth := k11m1) (c := k11c1) (by decide +kernel) rfl rfl rfl (by decide +kernel)
set_option maxRecDepth 65536 in
theorem w_c16 : (Jvm.Cond.code ({ cls := "java/lang/String", name := "checkIndex", desc := "(II)V" } : Jvm.MethodName) jdk_42_method_155_code (2 : Nat) (Option.none : Option Jvm.ClassFile.FieldType)).before args0 about1 = true := code_word (m := ⟨7, 9⟩) (meth := k7m9) (c := k7c9) (by decide +kernel) rfl rfl rfl (by decide +kernel)
set_option maxRecDepth 65536 in
theorem w_c17 : (Jvm.Cond.code ({ cls := "jdk/internal/util/Preconditions", name := "checkIndex", desc := "(IILjava/util/function/BiFunction;)I" } : Jvm.MethodName) jdk_41_method_11_code (3 : Nat) (Option.some Jvm.ClassFile.FieldType.int)).before args0 about1 = true := code_word (m := ⟨12, 1⟩) (meth := k12m1) (c := k12c1) (by decide +kernel) rfl rfl rfl (by decide +kernel)
set_option maxRecDepth 65536 in
theorem w_c18 : (Jvm.Cond.code ({ cls := "com/example/libtardy/libtardy/QueueName", name := "isAllowed", desc := "(C)Z" } : Jvm.MethodName) prog_6_method_3_code (1 : Nat) (Option.some Jvm.ClassFile.FieldType.boolean)).before args0 about1 = true := code_word (m := ⟨9, 2⟩) (meth := k9m2) (c := k9c2) (by decide +kernel) rfl rfl rfl (by decide +kernel)
set_option maxRecDepth 65536 in
theorem w_c19 : (Jvm.Cond.code ({ cls := "com/example/libtardy/libtardy/QueueName", name := "<init>", desc := "(Ljava/lang/String;)V" } : Jvm.MethodName) prog_6_method_1_code (2 : Nat) (Option.none : Option Jvm.ClassFile.FieldType)).before args0 about1 = true := code_word (m := ⟨9, 0⟩) (meth := k9m0) (c := k9c0) (by decide +kernel) rfl rfl rfl (by decide +kernel)
set_option maxRecDepth 65536 in
theorem w_c20 : (Jvm.Cond.code ({ cls := "com/example/libtardy/libtardy/QueueName", name := "toString", desc := "()Ljava/lang/String;" } : Jvm.MethodName) prog_6_method_5_code (1 : Nat) (Option.some (Jvm.ClassFile.FieldType.object "java/lang/String"))).before args0 about1 = true := code_word (m := ⟨9, 3⟩) (meth := k9m3) (c := k9c3) (by decide +kernel) rfl rfl rfl (by decide +kernel)
set_option maxRecDepth 65536 in
theorem w_c21 : (Jvm.Cond.code ({ cls := "java/lang/String", name := "equals", desc := "(Ljava/lang/Object;)Z" } : Jvm.MethodName) jdk_42_method_66_code (3 : Nat) (Option.some Jvm.ClassFile.FieldType.boolean)).before args0 about1 = true := code_word (m := ⟨7, 5⟩) (meth := k7m5) (c := k7c5) (by decide +kernel) rfl rfl rfl (by decide +kernel)
def codes1 : List Jvm.Cond := [Jvm.Cond.code x code maxLocals ret, Jvm.Cond.code ({ cls := "com/example/libtardy/libtardy/QueueNameOfPinLaw", name := "allowed", desc := "(I)C" } : Jvm.MethodName) method_2_code (2 : Nat) (Option.some Jvm.ClassFile.FieldType.char), Jvm.Cond.code ({ cls := "java/lang/String", name := "<init>", desc := "([C)V" } : Jvm.MethodName) jdk_42_method_3_code (2 : Nat) (Option.none : Option Jvm.ClassFile.FieldType), Jvm.Cond.code ({ cls := "java/lang/String", name := "<init>", desc := "([CIILjava/lang/Void;)V" } : Jvm.MethodName) jdk_42_method_149_code (6 : Nat) (Option.none : Option Jvm.ClassFile.FieldType), Jvm.Cond.code ({ cls := "java/lang/Object", name := "<init>", desc := "()V" } : Jvm.MethodName) object_method_1_code (1 : Nat) (Option.none : Option Jvm.ClassFile.FieldType), Jvm.Cond.code ({ cls := "java/lang/StringUTF16", name := "compress", desc := "([CII)[B" } : Jvm.MethodName) jdk_52_method_16_code (6 : Nat) (Option.some (Jvm.ClassFile.FieldType.array Jvm.ClassFile.FieldType.byte)), Jvm.Cond.code ({ cls := "java/lang/StringUTF16", name := "compress", desc := "([CI[BII)I" } : Jvm.MethodName) jdk_52_method_21_code (7 : Nat) (Option.some Jvm.ClassFile.FieldType.int), Jvm.Cond.code ({ cls := "java/lang/StringUTF16", name := "coderFromArrayLen", desc := "([BI)B" } : Jvm.MethodName) jdk_52_method_15_code (2 : Nat) (Option.some Jvm.ClassFile.FieldType.byte), Jvm.Cond.code ({ cls := "com/example/libtardy/libtardy/QueueName", name := "of", desc := "(Ljava/lang/String;)Lcom/example/libtardy/libtardy/QueueName;" } : Jvm.MethodName) prog_6_method_2_code (2 : Nat) (Option.some (Jvm.ClassFile.FieldType.object "com/example/libtardy/libtardy/QueueName")), Jvm.Cond.code ({ cls := "java/util/Objects", name := "requireNonNull", desc := "(Ljava/lang/Object;Ljava/lang/String;)Ljava/lang/Object;" } : Jvm.MethodName) jdk_31_method_11_code (2 : Nat) (Option.some (Jvm.ClassFile.FieldType.object "java/lang/Object")), Jvm.Cond.code ({ cls := "java/lang/String", name := "isEmpty", desc := "()Z" } : Jvm.MethodName) jdk_42_method_55_code (1 : Nat) (Option.some Jvm.ClassFile.FieldType.boolean), Jvm.Cond.code ({ cls := "java/lang/String", name := "length", desc := "()I" } : Jvm.MethodName) jdk_42_method_54_code (1 : Nat) (Option.some Jvm.ClassFile.FieldType.int), Jvm.Cond.code ({ cls := "java/lang/String", name := "coder", desc := "()B" } : Jvm.MethodName) jdk_42_method_152_code (1 : Nat) (Option.some Jvm.ClassFile.FieldType.byte), Jvm.Cond.code ({ cls := "java/lang/String", name := "charAt", desc := "(I)C" } : Jvm.MethodName) jdk_42_method_56_code (2 : Nat) (Option.some Jvm.ClassFile.FieldType.char), Jvm.Cond.code ({ cls := "java/lang/String", name := "isLatin1", desc := "()Z" } : Jvm.MethodName) jdk_42_method_154_code (1 : Nat) (Option.some Jvm.ClassFile.FieldType.boolean), Jvm.Cond.code ({ cls := "java/lang/StringLatin1", name := "charAt", desc := "([BI)C" } : Jvm.MethodName) jdk_43_method_2_code (2 : Nat) (Option.some Jvm.ClassFile.FieldType.char), Jvm.Cond.code ({ cls := "java/lang/String", name := "checkIndex", desc := "(II)V" } : Jvm.MethodName) jdk_42_method_155_code (2 : Nat) (Option.none : Option Jvm.ClassFile.FieldType), Jvm.Cond.code ({ cls := "jdk/internal/util/Preconditions", name := "checkIndex", desc := "(IILjava/util/function/BiFunction;)I" } : Jvm.MethodName) jdk_41_method_11_code (3 : Nat) (Option.some Jvm.ClassFile.FieldType.int), Jvm.Cond.code ({ cls := "com/example/libtardy/libtardy/QueueName", name := "isAllowed", desc := "(C)Z" } : Jvm.MethodName) prog_6_method_3_code (1 : Nat) (Option.some Jvm.ClassFile.FieldType.boolean), Jvm.Cond.code ({ cls := "com/example/libtardy/libtardy/QueueName", name := "<init>", desc := "(Ljava/lang/String;)V" } : Jvm.MethodName) prog_6_method_1_code (2 : Nat) (Option.none : Option Jvm.ClassFile.FieldType), Jvm.Cond.code ({ cls := "com/example/libtardy/libtardy/QueueName", name := "toString", desc := "()Ljava/lang/String;" } : Jvm.MethodName) prog_6_method_5_code (1 : Nat) (Option.some (Jvm.ClassFile.FieldType.object "java/lang/String")), Jvm.Cond.code ({ cls := "java/lang/String", name := "equals", desc := "(Ljava/lang/Object;)Z" } : Jvm.MethodName) jdk_42_method_66_code (3 : Nat) (Option.some Jvm.ClassFile.FieldType.boolean)]
set_option maxRecDepth 65536 in
theorem codes_eq : words1.filter isCode = codes1 := rfl
theorem w_codes : ∀ c ∈ words1.filter isCode, c.before args0 about1 = true := by
  rw [codes_eq]
  intro c hc
  simp only [codes1, List.mem_cons, List.not_mem_nil, or_false] at hc
  rcases hc with rfl | rfl | rfl | rfl | rfl | rfl | rfl | rfl | rfl | rfl | rfl | rfl | rfl | rfl | rfl | rfl | rfl | rfl | rfl | rfl | rfl | rfl
  · exact w_c0
  · exact w_c1
  · exact w_c2
  · exact w_c3
  · exact w_c4
  · exact w_c5
  · exact w_c6
  · exact w_c7
  · exact w_c8
  · exact w_c9
  · exact w_c10
  · exact w_c11
  · exact w_c12
  · exact w_c13
  · exact w_c14
  · exact w_c15
  · exact w_c16
  · exact w_c17
  · exact w_c18
  · exact w_c19
  · exact w_c20
  · exact w_c21
set_option maxRecDepth 65536 in
theorem w_t1 : (words1.take 24).all (fun c => isCode c || c.before args0 about1) = true := by decide +kernel
set_option maxRecDepth 65536 in
theorem w_t2 : ((words1.drop 24).take 24).all (fun c => isCode c || c.before args0 about1) = true := by decide +kernel
set_option maxRecDepth 65536 in
theorem w_t3 : (((words1.drop 24).drop 24).take 24).all (fun c => isCode c || c.before args0 about1) = true := by decide +kernel
set_option maxRecDepth 65536 in
theorem w_t4 : ((((words1.drop 24).drop 24).drop 24).take 24).all (fun c => isCode c || c.before args0 about1) = true := by decide +kernel
set_option maxRecDepth 65536 in
theorem w_t5 : ((((words1.drop 24).drop 24).drop 24).drop 24).all (fun c => isCode c || c.before args0 about1) = true := by decide +kernel
theorem w_tables : (allAtoms (Jvm.Cond.code x code maxLocals ret :: tables_1)).before args0 about1 = true := by
  rw [allAtoms_all]
  show words1.all (fun c => c.before args0 about1) = true
  refine all_split ?_ w_codes
  rw [← List.take_append_drop 24 words1, List.all_append, w_t1, ← List.take_append_drop 24 (words1.drop 24), List.all_append, w_t2, ← List.take_append_drop 24 ((words1.drop 24).drop 24), List.all_append, w_t3, ← List.take_append_drop 24 (((words1.drop 24).drop 24).drop 24), List.all_append, w_t4, w_t5]
  rfl
set_option maxRecDepth 65536 in
theorem w_rest : rest_1_c.before args0 about1 = true := by decide +kernel
set_option maxRecDepth 65536 in
theorem w_case : (Jvm.Cond.and given_1 narrow_1).before args0 about1 = true := by decide +kernel
theorem w_applies : (headSpec (Jvm.Cond.code x code maxLocals ret :: tables_1) room_1).applies x e0.platform about1 = true :=
  (Spec.applies_iff w_frames).mpr ⟨w_running, w_runnable, w_alone, w_named, w_hears, w_ripe, w_room, w_tables⟩
theorem atStart : AtStart classFile x code maxLocals ret World_1 tables_1 room_1 Calls_1 rest_1 Pre_1 launch0 p0 e0 about1 theMethod args0 below0 :=
  ⟨lists_1, trivial, launch0.admits_env _ _ _, launch0.least_env, fairChoices_fair.cas, fairChoices_fair.clock, w_frames, w_args, w_heap, w_applies, trivial, w_rest, w_case⟩
end start1
theorem witness_1 : WitnessClaimed_1 := ⟨start1.p0, start1.e0, start1.about1, start1.theMethod, start1.args0, start1.below0, start1.atStart⟩
end Jvm.Pilot.@@N@@
