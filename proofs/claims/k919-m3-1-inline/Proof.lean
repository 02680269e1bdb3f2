import JvmDerived
import JvmDerived.Pilot.@@N@@Statement
import JvmDerived.Pilot.@@N@@Code
set_option linter.unusedVariables false
set_option linter.unusedSimpArgs false
namespace Jvm.RoadKit
open Sem ClassFile Op Lib Jvm.Stand Jvm.Free Jvm.LawKit
section New
variable {p : Program} {l : Launch} {e : Env} {R : Room} {s : State} {m : MethodId} {args : Array Value} {below : List Frame} {meth : Method} {c : Code} {T : State} {locs : List Loc} {cells slots : Nat}
theorem retI (X : Stand p l e R s m args below meth c T locs cells slots) (hx : p.tables.exec = Jvm.exec) {pc : Nat} {Ls : Array Slot} {z : Int32} {rest : List Value} (hret : meth.sig.returnType = some .int) (hd : decode c.code pc = .ok (.ireturn, 1)) {fs : List Frame}
    (hl : ∀ (f : JFrame) (acts : List Action), f.method = m → f.locked = none → f.entered = [] → (doReturn e (T.setTop f) acts (some (.int z))).1 = T.setFrames fs) : Steps p.tables e below (T.setTop (mkF m pc Ls (.int z :: rest))) (T.setFrames fs) := by
  have hm' : T.vm.method? m = some meth := X.method'
  have hn : narrow .int (.int z) = .int z := rfl
  show Steps p.tables e below (T.setTop { method := m, pc := pc, locals := Ls, stack := _ :: rest, locked := none }) _
  jvm_step X.here [X.here.top, hx, hd, hm', hret, hn]
  first | (intro acts; rw [hl _ acts rfl rfl rfl]) | rw [hl _ _ rfl rfl rfl]
  exact Steps.refl _
end New
end Jvm.RoadKit
/- laws to paste: Road.backV (cut by pick.py; bodies as the Statement names them) -/
namespace Jvm.Pilot.@@N@@
namespace StrChars
open Jvm Sem ClassFile Op Lib Jvm.Stand Jvm.Free.XT Jvm.Free.ALB Jvm.Free.JM Jvm.Free
open Jvm.Lib.Cold (StaticIs)
/-- a char array whose places are chars -/
def Ch (a : Addr) (A : Cell) (U : State) : Prop := Arr .char a A U ∧ Typed .char A
theorem Ch.mv {a : Addr} {A : Cell} {U U' : State} (h : Ch a A U) (hal : U.vm.Alike U'.vm) (hh : U'.heap = U.heap) : Ch a A U' := ⟨h.1.mv hal hh, h.2⟩
theorem Ch.keep {a : Addr} {A : Cell} {U U' : State} (h : Ch a A U) (hal : U.vm.Alike U'.vm) (hk : U'.heap[a]? = some A) : Ch a A U' := ⟨h.1.keep hal hk, h.2⟩
/-- what place i of a char[]'s cell holds -/
def cv (A : Cell) (i : Nat) : Int32 := match A.slots[i]? with | some (.int x) => x | _ => 0
theorem Ch.get {a : Addr} {A : Cell} {U : State} (h : Ch a A U) {i : Nat} (hi : i < A.slots.size) : A.slots[i]? = some (.int (cv A i)) := by
  have e := Array.getElem?_eq_getElem hi
  have f := h.2 i _ e
  unfold cv; rw [e]
  generalize A.slots[i] = v at f
  cases v <;> simp [fits] at f ⊢
/-- the byte that i2b leaves of a char -/
def lo8 (x : Int32) : Int32 := x.toInt8.toInt32
theorem fits_lo8 (y : Int32) : fits .byte (.int (lo8 y)) = true := by
  have h1 := y.toInt8.le_toInt
  have h2 := y.toInt8.toInt_lt
  simp only [lo8, fits, Bool.and_eq_true, decide_eq_true_eq, Int32.le_iff_toInt_le, Int8.toInt_toInt32, show (-128 : Int32).toInt = -128 from by decide, show (127 : Int32).toInt = 127 from by decide]
  omega
/-- A' is A but that each place j of lo .. hi - 1 holds f j -/
def Laid (A A' : Cell) (lo hi : Nat) (f : Nat → Value) : Prop := A'.cls = A.cls ∧ A'.vm = A.vm ∧ A'.slots.size = A.slots.size ∧ ∀ i, A'.slots[i]? = if lo ≤ i ∧ i < hi then some (f i) else A.slots[i]?
theorem Laid.zero (A : Cell) (lo : Nat) (f : Nat → Value) : Laid A A lo (lo + 0) f := ⟨rfl, rfl, rfl, fun i => by rw [if_neg (by omega)]⟩
theorem Laid.step {A Ak : Cell} {lo k : Nat} {f : Nat → Value} {v : Value} (h : Laid A Ak lo k f) (hlo : lo ≤ k) (hk : k < Ak.slots.size) (hv : v = f k) : Laid A (Ak.setSlot k v) lo (k + 1) f := by
  refine ⟨h.1, h.2.1, by simpa [Cell.setSlot] using h.2.2.1, fun i => ?_⟩
  by_cases e : k = i
  · subst e; rw [Cell.slots_setSlot_self v hk, if_pos (by omega), hv]
  · rw [Cell.slots_setSlot_ne v e, h.2.2.2 i]
    by_cases q : lo ≤ i ∧ i < k
    · rw [if_pos q, if_pos (by omega)]
    · rw [if_neg q, if_neg (by omega)]
def U16 : String := "java/lang/StringUTF16"
namespace Cmp5
def yN : MethodName := ⟨"java/lang/StringUTF16", "compress", "([CI[BII)I"⟩
abbrev yB : ByteArray := jdk_52_method_21_code
theorem d0 : decode yB 0 = .ok (.iconst 0, 1) := by decide +kernel
theorem d1 : decode yB 1 = .ok (.istore 5, 2) := by decide +kernel
theorem d3 : decode yB 3 = .ok (.iload 5, 2) := by decide +kernel
theorem d5 : decode yB 5 = .ok (.iload 4, 2) := by decide +kernel
theorem d7 : decode yB 7 = .ok (.if_icmp (.ge) 37, 3) := by decide +kernel
theorem d10 : decode yB 10 = .ok (.aload_n 0, 1) := by decide +kernel
theorem d11 : decode yB 11 = .ok (.iload_n 1, 1) := by decide +kernel
theorem d12 : decode yB 12 = .ok (.caload, 1) := by decide +kernel
theorem d13 : decode yB 13 = .ok (.istore 6, 2) := by decide +kernel
theorem d15 : decode yB 15 = .ok (.iload 6, 2) := by decide +kernel
theorem d17 : decode yB 17 = .ok (.sipush 255, 3) := by decide +kernel
theorem d20 : decode yB 20 = .ok (.if_icmp (.le) 6, 3) := by decide +kernel
theorem d26 : decode yB 26 = .ok (.aload_n 2, 1) := by decide +kernel
theorem d27 : decode yB 27 = .ok (.iload_n 3, 1) := by decide +kernel
theorem d28 : decode yB 28 = .ok (.iload 6, 2) := by decide +kernel
theorem d30 : decode yB 30 = .ok (.i2b, 1) := by decide +kernel
theorem d31 : decode yB 31 = .ok (.bastore, 1) := by decide +kernel
theorem d32 : decode yB 32 = .ok (.iinc 1 1, 3) := by decide +kernel
theorem d35 : decode yB 35 = .ok (.iinc 3 1, 3) := by decide +kernel
theorem d38 : decode yB 38 = .ok (.iinc 5 1, 3) := by decide +kernel
theorem d41 : decode yB 41 = .ok (.goto (-38), 3) := by decide +kernel
theorem d44 : decode yB 44 = .ok (.iload 4, 2) := by decide +kernel
theorem d46 : decode yB 46 = .ok (.ireturn, 1) := by decide +kernel
def site : List Cond := []
def tab : Cond := tabOf yN yB 7 (some .int) site
def P (b : Addr) (A : Cell) (d : Addr) (B : Cell) (o q len : Nat) (args : Array Value) (s : State) : Prop := args = #[.ref b, .int (Int32.ofNat o), .ref d, .int (Int32.ofNat q), .int (Int32.ofNat len)] ∧ Ch b A s ∧ Arr .byte d B s ∧ b ≠ d ∧ o + len ≤ A.slots.size ∧ q + len ≤ B.slots.size ∧ ∀ i, i < len → ¬ 255 < cv A (o + i)
def E (b : Addr) (A : Cell) (d : Addr) (B : Cell) (o q len : Nat) (r : Option Value) (s u : State) : Prop := r = some (.int (Int32.ofNat len)) ∧ ∃ B', Put d B' s u ∧ Laid B B' q (q + len) (fun j => Value.int (lo8 (cv A (o + (j - q)))))
/-- no char of the range above 255: len; the places written hold each char's low byte -/
theorem law (l : Launch) (b : Addr) (A : Cell) (d : Addr) (B : Cell) (o q len : Nat) : Law l yN 5 5 0 0 yB 7 (some .int) site (P b A d B o q len) (E b A d B o q len) (copyLocs d q len) 0 0 := by
  refine Law.of_walk (plainFor_of_name (by decide +kernel)) (by decide +kernel) (by decide +kernel) (by decide) (fun _ _ h => by rw [h.1]; rfl) (fun _ U U' hal hh h => ⟨h.1, h.2.1.mv hal hh, h.2.2.1.mv hal hh, h.2.2.2⟩) (fun r U U' V V' h1 hal h2 h => ⟨h.1, h.2.elim fun B' q => ⟨B', q.1.mv h1 h2, q.2⟩⟩) ?_
  intro p e s m args below meth c s₁ X0 hexec hbytes hml hret hlk hnm hown hh0 W hP
  obtain ⟨rfl, hA, hB, hne, l1, l2, hp⟩ := hP
  have c1 : Steps p.tables e below (s₁.setTop (entryFrame m #[.ref b, .int (Int32.ofNat o), .ref d, .int (Int32.ofNat q), .int (Int32.ofNat len)] 7)) (s₁.setTop (mkF m 0 #[.val (.ref b), .val (.int (Int32.ofNat o)), .val (.ref d), .val (.int (Int32.ofNat q)), .val (.int (Int32.ofNat len)), .unset, .unset] [])) := entry rfl
  have hA0 := hA.1.mv X0.warmed.alike hh0
  have hB0 := hB.mv X0.warmed.alike hh0
  have a31 := hA.1.2.2.2
  have c2 : Steps p.tables e below (s₁.setTop (entryFrame m #[.ref b, .int (Int32.ofNat o), .ref d, .int (Int32.ofNat q), .int (Int32.ofNat len)] 7)) (s₁.setTop (mkF m 3 #[.val (.ref b), .val (.int (Int32.ofNat o)), .val (.ref d), .val (.int (Int32.ofNat q)), .val (.int (Int32.ofNat len)), .val (.int 0), .unset] [])) := c1.trans (by
    refine iconstV X0.here hexec rfl 0 (hb hbytes d0) (by decide) ?_
    refine XS.istore X0.here hexec rfl (hb hbytes d1) rfl rfl ?_
    exact Steps.refl _)
  have loop : ∀ (r i : Nat), i + r = len → ∀ (z : Slot), (z = .unset ∨ ∃ w, z = .val w ∧ w.category = 1) → ∀ (Tl : State) (Bk : Cell), Stand p l e { frames := 0, locals := 0, cells := 0, slots := 0 } s m #[.ref b, .int (Int32.ofNat o), .ref d, .int (Int32.ofNat q), .int (Int32.ofNat len)] below meth c Tl ([] ++ copyLocs d q i) 0 0 → Put d Bk s₁ Tl → Laid B Bk q (q + i) (fun j => Value.int (lo8 (cv A (o + (j - q))))) →
      Steps p.tables e below (s₁.setTop (entryFrame m #[.ref b, .int (Int32.ofNat o), .ref d, .int (Int32.ofNat q), .int (Int32.ofNat len)] 7)) (Tl.setTop (mkF m 3 #[.val (.ref b), .val (.int (Int32.ofNat (o + i))), .val (.ref d), .val (.int (Int32.ofNat (q + i))), .val (.int (Int32.ofNat len)), .val (.int (Int32.ofNat i)), z] [])) → ∃ (T' : State) (B' : Cell) (z' : Slot), Stand p l e { frames := 0, locals := 0, cells := 0, slots := 0 } s m #[.ref b, .int (Int32.ofNat o), .ref d, .int (Int32.ofNat q), .int (Int32.ofNat len)] below meth c T' ([] ++ copyLocs d q len) 0 0 ∧ Put d B' s₁ T' ∧ Laid B B' q (q + len) (fun j => Value.int (lo8 (cv A (o + (j - q))))) ∧
      Steps p.tables e below (s₁.setTop (entryFrame m #[.ref b, .int (Int32.ofNat o), .ref d, .int (Int32.ofNat q), .int (Int32.ofNat len)] 7)) (T'.setTop (mkF m 3 #[.val (.ref b), .val (.int (Int32.ofNat (o + len))), .val (.ref d), .val (.int (Int32.ofNat (q + len))), .val (.int (Int32.ofNat len)), .val (.int (Int32.ofNat len)), z'] [])) := by
    intro r
    induction r with
    | zero =>
      intro i hi z hz Tl Bk Xl pl fl cl
      have hil : i = len := by omega
      rw [hil] at Xl fl cl
      exact ⟨Tl, Bk, z, Xl, pl, fl, cl⟩
    | succ r ih =>
      intro i hi z hz Tl Bk Xl pl fl cl
      have all := X0.warmed.alike.symm.trans Xl.warmed.alike
      have hAl := hA0.keep all (pl.other hne hA0.1)
      have hBk := hB0.like all pl.1 fl.1 fl.2.1 fl.2.2.1
      have hlt : q + i < Bk.slots.size := by rw [fl.2.2.1]; omega
      have c3 : Steps p.tables e below (s₁.setTop (entryFrame m #[.ref b, .int (Int32.ofNat o), .ref d, .int (Int32.ofNat q), .int (Int32.ofNat len)] 7)) (Tl.setTop (mkF m 12 #[.val (.ref b), .val (.int (Int32.ofNat (o + i))), .val (.ref d), .val (.int (Int32.ofNat (q + i))), .val (.int (Int32.ofNat len)), .val (.int (Int32.ofNat i)), z] [.int (Int32.ofNat (o + i)), .ref b])) := cl.trans (by
        refine XS.iload Xl.here hexec rfl (hb hbytes d3) rfl ?_
        refine XS.iload Xl.here hexec rfl (hb hbytes d5) rfl ?_
        refine XS.icmpNo Xl.here hexec rfl (hb hbytes d7) rfl (ii_ge_f (lt32 (by omega) (by omega))) ?_
        refine XS.aloadN Xl.here hexec rfl (hb hbytes d10) rfl rfl ?_
        refine XS.iloadN Xl.here hexec rfl (hb hbytes d11) rfl ?_
        exact Steps.refl _)
      have c4 : Steps p.tables e below (s₁.setTop (entryFrame m #[.ref b, .int (Int32.ofNat o), .ref d, .int (Int32.ofNat q), .int (Int32.ofNat len)] 7)) (Tl.setTop (mkF m 13 #[.val (.ref b), .val (.int (Int32.ofNat (o + i))), .val (.ref d), .val (.int (Int32.ofNat (q + i))), .val (.int (Int32.ofNat len)), .val (.int (Int32.ofNat i)), z] [.int (cv A (o + i))])) := c3.trans (by
        refine Xl.aget hexec hAl rfl (hA.get (i := o + i) (by omega)) rfl rfl (hb hbytes d12) ?_
        exact Steps.refl _)
      have c5 : Steps p.tables e below (s₁.setTop (entryFrame m #[.ref b, .int (Int32.ofNat o), .ref d, .int (Int32.ofNat q), .int (Int32.ofNat len)] 7)) (Tl.setTop (mkF m 15 #[.val (.ref b), .val (.int (Int32.ofNat (o + i))), .val (.ref d), .val (.int (Int32.ofNat (q + i))), .val (.int (Int32.ofNat len)), .val (.int (Int32.ofNat i)), .val (.int (cv A (o + i)))] [])) := c4.trans (by
        refine XS.istoreS Xl.here hexec rfl (hb hbytes d13) rfl rfl hz ?_
        exact Steps.refl _)
      have c6 : Steps p.tables e below (s₁.setTop (entryFrame m #[.ref b, .int (Int32.ofNat o), .ref d, .int (Int32.ofNat q), .int (Int32.ofNat len)] 7)) (Tl.setTop (mkF m 31 #[.val (.ref b), .val (.int (Int32.ofNat (o + i))), .val (.ref d), .val (.int (Int32.ofNat (q + i))), .val (.int (Int32.ofNat len)), .val (.int (Int32.ofNat i)), .val (.int (cv A (o + i)))] [.int (lo8 (cv A (o + i))), .int (Int32.ofNat (q + i)), .ref d])) := c5.trans (by
        refine XS.iload Xl.here hexec rfl (hb hbytes d15) rfl ?_
        refine sipushV Xl.here hexec rfl 255 (hb hbytes d17) (by decide) ?_
        refine XS.icmpYes Xl.here hexec rfl (pc0 := 20) rfl (hb hbytes d20) rfl (ii_le_t (hp i (by omega))) (by decide) rfl ?_
        refine XS.aloadN Xl.here hexec rfl (hb hbytes d26) rfl rfl ?_
        refine XS.iloadN Xl.here hexec rfl (hb hbytes d27) rfl ?_
        refine XS.iload Xl.here hexec rfl (hb hbytes d28) rfl ?_
        refine i2b Xl.here hexec rfl (hb hbytes d30) rfl ?_
        exact Steps.refl _)
      obtain ⟨T7, X7, p7, st7⟩ := Xl.aput hexec hBk rfl hlt rfl (fits_lo8 (cv A (o + i))) (g := (mkF m 31 #[.val (.ref b), .val (.int (Int32.ofNat (o + i))), .val (.ref d), .val (.int (Int32.ofNat (q + i))), .val (.int (Int32.ofNat len)), .val (.int (Int32.ofNat i)), .val (.int (cv A (o + i)))] [.int (lo8 (cv A (o + i))), .int (Int32.ofNat (q + i)), .ref d])) rfl (rest := []) rfl (hb hbytes d31)
      have c8 : Steps p.tables e below (s₁.setTop (entryFrame m #[.ref b, .int (Int32.ofNat o), .ref d, .int (Int32.ofNat q), .int (Int32.ofNat len)] 7)) (T7.setTop (mkF m 32 #[.val (.ref b), .val (.int (Int32.ofNat (o + i))), .val (.ref d), .val (.int (Int32.ofNat (q + i))), .val (.int (Int32.ofNat len)), .val (.int (Int32.ofNat i)), .val (.int (cv A (o + i)))] [])) := c6.trans (st7 _ (Steps.refl _))
      have c9 : Steps p.tables e below (s₁.setTop (entryFrame m #[.ref b, .int (Int32.ofNat o), .ref d, .int (Int32.ofNat q), .int (Int32.ofNat len)] 7)) (T7.setTop (mkF m 3 #[.val (.ref b), .val (.int (Int32.ofNat (o + i) + 1)), .val (.ref d), .val (.int (Int32.ofNat (q + i) + 1)), .val (.int (Int32.ofNat len)), .val (.int (Int32.ofNat i + 1)), .val (.int (cv A (o + i)))] [])) := c8.trans (by
        refine iincV X7.here hexec rfl 1 (hb hbytes d32) (by decide) rfl rfl ?_
        refine iincV X7.here hexec rfl 1 (hb hbytes d35) (by decide) rfl rfl ?_
        refine iincV X7.here hexec rfl 1 (hb hbytes d38) (by decide) rfl rfl ?_
        refine XS.goto X7.here hexec rfl (pc0 := 41) rfl (hb hbytes d41) (by decide) rfl ?_
        exact Steps.refl _)
      have c10 : Steps p.tables e below (s₁.setTop (entryFrame m #[.ref b, .int (Int32.ofNat o), .ref d, .int (Int32.ofNat q), .int (Int32.ofNat len)] 7)) (T7.setTop (mkF m 3 #[.val (.ref b), .val (.int (Int32.ofNat (o + (i + 1)))), .val (.ref d), .val (.int (Int32.ofNat (q + (i + 1)))), .val (.int (Int32.ofNat len)), .val (.int (Int32.ofNat (i + 1))), .val (.int (cv A (o + i)))] [])) := by
        have := c9
        rw [succ32, succ32, succ32] at this
        exact this
      exact ih (i + 1) (by omega) _ (Or.inr ⟨_, rfl, rfl⟩) T7 _ (by rw [copyLocs_step, ← List.append_assoc]; exact X7) (pl.trans p7) (fl.step (by omega) hlt (by simp)) c10
  obtain ⟨T9, B9, z9, X9, p9, f9, g9⟩ := loop len 0 (by omega) .unset (Or.inl rfl) s₁ B (by simpa [copyLocs] using X0) ⟨hB0.1, fun _ _ => rfl, rfl⟩ (Laid.zero _ _ _) c2
  have c11 : Steps p.tables e below (s₁.setTop (entryFrame m #[.ref b, .int (Int32.ofNat o), .ref d, .int (Int32.ofNat q), .int (Int32.ofNat len)] 7)) (T9.setTop (mkF m 46 #[.val (.ref b), .val (.int (Int32.ofNat (o + len))), .val (.ref d), .val (.int (Int32.ofNat (q + len))), .val (.int (Int32.ofNat len)), .val (.int (Int32.ofNat len)), z9] [.int (Int32.ofNat len)])) := g9.trans (by
    refine XS.iload X9.here hexec rfl (hb hbytes d3) rfl ?_
    refine XS.iload X9.here hexec rfl (hb hbytes d5) rfl ?_
    refine XS.icmpYes X9.here hexec rfl (pc0 := 7) rfl (hb hbytes d7) rfl (ii_ge_t (nlt32 (by omega) (Nat.le_refl _))) (by decide) rfl ?_
    refine XS.iload X9.here hexec rfl (hb hbytes d44) rfl ?_
    exact Steps.refl _)
  exact ⟨T9, some (.int (Int32.ofNat len)), _, _, _, X9, by simp, rfl, rfl, (fun h => by cases h), ⟨rfl, B9, p9.from hh0, f9⟩, fun fs hl => c11.trans (X9.ireturnOut hexec hret rfl (Or.inl rfl) (hb hbytes d46) hl)⟩
end Cmp5
namespace Cmp3
def yN : MethodName := ⟨"java/lang/StringUTF16", "compress", "([CII)[B"⟩
abbrev yB : ByteArray := jdk_52_method_16_code
theorem d0 : decode yB 0 = .ok (.iload_n 2, 1) := by decide +kernel
theorem d1 : decode yB 1 = .ok (.newarray .byte, 2) := by decide +kernel
theorem d3 : decode yB 3 = .ok (.astore_n 3, 1) := by decide +kernel
theorem d4 : decode yB 4 = .ok (.aload_n 0, 1) := by decide +kernel
theorem d5 : decode yB 5 = .ok (.iload_n 1, 1) := by decide +kernel
theorem d6 : decode yB 6 = .ok (.aload_n 3, 1) := by decide +kernel
theorem d7 : decode yB 7 = .ok (.iconst 0, 1) := by decide +kernel
theorem d8 : decode yB 8 = .ok (.iload_n 2, 1) := by decide +kernel
theorem d9 : decode yB 9 = .ok (.invokestatic 115, 3) := by decide +kernel
theorem d12 : decode yB 12 = .ok (.istore 4, 2) := by decide +kernel
theorem d14 : decode yB 14 = .ok (.iload 4, 2) := by decide +kernel
theorem d16 : decode yB 16 = .ok (.iload_n 2, 1) := by decide +kernel
theorem d17 : decode yB 17 = .ok (.if_icmp (.eq) 40, 3) := by decide +kernel
theorem d57 : decode yB 57 = .ok (.aload_n 3, 1) := by decide +kernel
theorem d58 : decode yB 58 = .ok (.areturn, 1) := by decide +kernel
def site : List Cond := [.arrayClass .byte, Cmp5.tab] ++ staticW U16 115 Cmp5.yN
def tab : Cond := tabOf yN yB 6 (some (.array .byte)) site
def P (b : Addr) (A : Cell) (o len : Nat) (args : Array Value) (s : State) : Prop := args = #[.ref b, .int (Int32.ofNat o), .int (Int32.ofNat len)] ∧ Ch b A s ∧ o + len ≤ A.slots.size ∧ len ≤ 536870912 ∧ ∀ i, i < len → ¬ 255 < cv A (o + i)
def E (b : Addr) (A : Cell) (o len : Nat) (r : Option Value) (s u : State) : Prop := NewArr .byte "[B" len (fun j => .int (lo8 (cv A (o + j)))) r s u ∧ u.heap.size = s.heap.size + 1
/-- no char of the range above 255: a new byte[] of their low bytes -/
theorem law (l : Launch) (b : Addr) (A : Cell) (o len : Nat) : Law l yN 3 3 1 18 yB 6 (some (.array .byte)) site (P b A o len) (E b A o len) [] 1 len := by
  refine Law.of_walk (plainFor_of_name (by decide +kernel)) (by decide +kernel) (by decide +kernel) (by decide) (fun _ _ h => by rw [h.1]; rfl) (fun _ U U' hal hh h => ⟨h.1, h.2.1.mv hal hh, h.2.2⟩) (fun r U U' V V' h1 hal h2 h => ⟨NewArr.mv r U U' V V' h1 hal h2 h.1, by rw [h1, h2]; exact h.2⟩) ?_
  intro p e s m args below meth c s₁ X0 hexec hbytes hml hret hlk hnm hown hh0 W hP
  obtain ⟨rfl, hA, l1, l2, hp⟩ := hP
  have a31 := hA.1.2.2.2
  have c1 : Steps p.tables e below (s₁.setTop (entryFrame m #[.ref b, .int (Int32.ofNat o), .int (Int32.ofNat len)] 6)) (s₁.setTop (mkF m 0 #[.val (.ref b), .val (.int (Int32.ofNat o)), .val (.int (Int32.ofNat len)), .unset, .unset, .unset] [])) := entry rfl
  have c2 : Steps p.tables e below (s₁.setTop (entryFrame m #[.ref b, .int (Int32.ofNat o), .int (Int32.ofNat len)] 6)) (s₁.setTop (mkF m 1 #[.val (.ref b), .val (.int (Int32.ofNat o)), .val (.int (Int32.ofNat len)), .unset, .unset, .unset] [.int (Int32.ofNat len)])) := c1.trans (by
    refine XS.iloadN X0.here hexec rfl (hb hbytes d0) rfl ?_
    exact Steps.refl _)
  obtain ⟨T3, B3, X3, ba3, bs3, bv3, bh3, bf3, st3⟩ := X0.anew hexec (atype := .byte) (wk W (.arrayClass .byte)) rfl (by show len * 1 ≤ _; omega) (by omega) (g := (mkF m 1 #[.val (.ref b), .val (.int (Int32.ofNat o)), .val (.int (Int32.ofNat len)), .unset, .unset, .unset] [.int (Int32.ofNat len)])) rfl (hb hbytes d1) (rest := []) rfl (Nat.le_refl _) (by show 0 + len ≤ len; omega)
  rw [hh0] at ba3 st3
  have kp3 : XT.Kept s T3 := (XT.Kept.of_eq hh0).push bh3
  have hA3 := hA.keep X3.warmed.alike (kp3 _ _ hA.1.1)
  have hne : b ≠ s.heap.size := hA.1.ne
  have c4 : Steps p.tables e below (s₁.setTop (entryFrame m #[.ref b, .int (Int32.ofNat o), .int (Int32.ofNat len)] 6)) (T3.setTop (mkF m 3 #[.val (.ref b), .val (.int (Int32.ofNat o)), .val (.int (Int32.ofNat len)), .unset, .unset, .unset] [.ref s.heap.size])) := c2.trans (st3 _ (Steps.refl _))
  have c5 : Steps p.tables e below (s₁.setTop (entryFrame m #[.ref b, .int (Int32.ofNat o), .int (Int32.ofNat len)] 6)) (T3.setTop (mkF m 9 #[.val (.ref b), .val (.int (Int32.ofNat o)), .val (.int (Int32.ofNat len)), .val (.ref s.heap.size), .unset, .unset] [.int (Int32.ofNat len), .int 0, .ref s.heap.size, .int (Int32.ofNat o), .ref b])) := c4.trans (by
    refine XS.astoreN X3.here hexec rfl (hb hbytes d3) rfl rfl rfl ?_
    refine XS.aloadN X3.here hexec rfl (hb hbytes d4) rfl rfl ?_
    refine XS.iloadN X3.here hexec rfl (hb hbytes d5) rfl ?_
    refine XS.aloadN X3.here hexec rfl (hb hbytes d6) rfl rfl ?_
    refine iconstV X3.here hexec rfl 0 (hb hbytes d7) (by decide) ?_
    refine XS.iloadN X3.here hexec rfl (hb hbytes d8) rfl ?_
    exact Steps.refl _)
  obtain ⟨v6, T6, X6, E6, g6⟩ := X3.callS hexec (Cmp5.law l b A s.heap.size B3 o 0 len) hown (wks W (staticW U16 115 Cmp5.yN)) (wk W Cmp5.tab) (W := 0) (Nat.le_of_ble_eq_true rfl) (Nat.le_of_ble_eq_true rfl) (Nat.le_refl _) (by show 0 + len + 0 ≤ len; omega) (g := (mkF m 9 #[.val (.ref b), .val (.int (Int32.ofNat o)), .val (.int (Int32.ofNat len)), .val (.ref s.heap.size), .unset, .unset] [.int (Int32.ofNat len), .int (Int32.ofNat 0), .ref s.heap.size, .int (Int32.ofNat o), .ref b])) rfl (by rw [hml]; rfl) c5 (argsL := [.ref b, .int (Int32.ofNat o), .ref s.heap.size, .int (Int32.ofNat 0), .int (Int32.ofNat len)]) (rest := []) rfl rfl (by show 2 * 0 + 0 ≤ _; decide) (hb hbytes d9) (⟨rfl, hA3, ba3, hne, l1, by rw [bs3]; simp, hp⟩)
  obtain ⟨rfl, B6, p6, f6⟩ := E6
  have c7 : Steps p.tables e below (s₁.setTop (entryFrame m #[.ref b, .int (Int32.ofNat o), .int (Int32.ofNat len)] 6)) (T6.setTop (mkF m 12 #[.val (.ref b), .val (.int (Int32.ofNat o)), .val (.int (Int32.ofNat len)), .val (.ref s.heap.size), .unset, .unset] [.int (Int32.ofNat len)])) := g6
  have c8 : Steps p.tables e below (s₁.setTop (entryFrame m #[.ref b, .int (Int32.ofNat o), .int (Int32.ofNat len)] 6)) (T6.setTop (mkF m 58 #[.val (.ref b), .val (.int (Int32.ofNat o)), .val (.int (Int32.ofNat len)), .val (.ref s.heap.size), .val (.int (Int32.ofNat len)), .unset] [.ref s.heap.size])) := c7.trans (by
    refine XS.istore X6.here hexec rfl (hb hbytes d12) rfl rfl ?_
    refine XS.iload X6.here hexec rfl (hb hbytes d14) rfl ?_
    refine XS.iloadN X6.here hexec rfl (hb hbytes d16) rfl ?_
    refine XS.icmpYes X6.here hexec rfl (pc0 := 17) rfl (hb hbytes d17) rfl (ii_eq_t rfl) (by decide) rfl ?_
    refine XS.aloadN X6.here hexec rfl (hb hbytes d57) rfl rfl ?_
    exact Steps.refl _)
  have X8 := X6.wide (L' := []) (cells' := 1) (slots' := len) (fun x hx hlt => by
    simp only [List.nil_append, copyLocs, List.mem_map, List.mem_range] at hx
    obtain ⟨i, -, rfl⟩ := hx
    exact absurd hlt (Nat.lt_irrefl _)) (Nat.le_refl _) (by omega)
  exact ⟨T6, some (.ref s.heap.size), _, _, _, X8, rfl, rfl, rfl, (fun h => by cases h), ⟨⟨rfl, B6, ba3.like (X3.warmed.alike.symm.trans X6.warmed.alike) p6.1 f6.1 f6.2.1 f6.2.2.1, f6.2.1.trans bv3, by rw [X6.warmed.alike.findClass, f6.1]; exact bf3, by rw [f6.2.2.1, bs3]; simp, fun j hj => by rw [f6.2.2.2 j, if_pos (by omega)]; rfl, kp3.put p6 (Nat.le_refl _)⟩, by rw [p6.2.2, bh3, hh0]; simp⟩, fun fs hl => c8.trans (X8.areturnOut hexec rfl hret rfl (hb hbytes d58) hl)⟩
end Cmp3
namespace CodL
def yN : MethodName := ⟨"java/lang/StringUTF16", "coderFromArrayLen", "([BI)B"⟩
abbrev yB : ByteArray := jdk_52_method_15_code
theorem d0 : decode yB 0 = .ok (.iload_n 1, 1) := by decide +kernel
theorem d1 : decode yB 1 = .ok (.aload_n 0, 1) := by decide +kernel
theorem d2 : decode yB 2 = .ok (.arraylength, 1) := by decide +kernel
theorem d3 : decode yB 3 = .ok (.isub, 1) := by decide +kernel
theorem d4 : decode yB 4 = .ok (.bipush 31, 2) := by decide +kernel
theorem d6 : decode yB 6 = .ok (.iushr, 1) := by decide +kernel
theorem d7 : decode yB 7 = .ok (.i2b, 1) := by decide +kernel
theorem d8 : decode yB 8 = .ok (.ireturn, 1) := by decide +kernel
def site : List Cond := []
def tab : Cond := tabOf yN yB 2 (some .byte) site
def P (d : Addr) (B : Cell) (args : Array Value) (s : State) : Prop := args = #[.ref d, .int (Int32.ofNat B.slots.size)] ∧ Arr .byte d B s
def E (r : Option Value) (s u : State) : Prop := XT.PureE (some (.int 0)) r s u
/-- an array as long as the number of chars: LATIN1 -/
theorem law (l : Launch) (d : Addr) (B : Cell) : Law l yN 2 2 0 0 yB 2 (some .byte) site (P d B) E [] 0 0 := by
  refine Law.of_walk (plainFor_of_name (by decide +kernel)) (by decide +kernel) (by decide +kernel) (by decide) (fun _ _ h => by rw [h.1]; rfl) (fun _ U U' hal hh h => ⟨h.1, h.2.mv hal hh⟩) (fun r U U' V V' h1 hal h2 h => XT.PureE.mv r U U' V V' h1 hal h2 h) ?_
  intro p e s m args below meth c s₁ X0 hexec hbytes hml hret hlk hnm hown hh0 W hP
  obtain ⟨rfl, hB⟩ := hP
  have hB0 := hB.mv X0.warmed.alike hh0
  have c1 : Steps p.tables e below (s₁.setTop (entryFrame m #[.ref d, .int (Int32.ofNat B.slots.size)] 2)) (s₁.setTop (mkF m 0 #[.val (.ref d), .val (.int (Int32.ofNat B.slots.size))] [])) := entry rfl
  have c2 : Steps p.tables e below (s₁.setTop (entryFrame m #[.ref d, .int (Int32.ofNat B.slots.size)] 2)) (s₁.setTop (mkF m 2 #[.val (.ref d), .val (.int (Int32.ofNat B.slots.size))] [.ref d, .int (Int32.ofNat B.slots.size)])) := c1.trans (by
    refine XS.iloadN X0.here hexec rfl (hb hbytes d0) rfl ?_
    refine XS.aloadN X0.here hexec rfl (hb hbytes d1) rfl rfl ?_
    exact Steps.refl _)
  have c3 : Steps p.tables e below (s₁.setTop (entryFrame m #[.ref d, .int (Int32.ofNat B.slots.size)] 2)) (s₁.setTop (mkF m 8 #[.val (.ref d), .val (.int (Int32.ofNat B.slots.size))] [.int (lo8 (ushr (Int32.ofNat B.slots.size - Int32.ofNat B.slots.size) 31))])) := c2.trans (by
    refine X0.alen hexec hB0 rfl rfl (hb hbytes d2) ?_
    refine XS.isub X0.here hexec rfl (hb hbytes d3) rfl ?_
    refine bipushV X0.here hexec rfl 31 (hb hbytes d4) (by decide) ?_
    refine iushr X0.here hexec rfl (hb hbytes d6) rfl ?_
    refine i2b X0.here hexec rfl (hb hbytes d7) rfl ?_
    exact Steps.refl _)
  have e0 : lo8 (ushr (Int32.ofNat B.slots.size - Int32.ofNat B.slots.size) 31) = 0 := by rw [Int32.sub_self]; decide
  rw [e0] at c3
  exact ⟨s₁, some (.int 0), _, _, _, X0, rfl, rfl, rfl, (fun h => by cases h), ⟨rfl, hh0⟩, fun fs hl => c3.trans (X0.ireturnOut hexec hret rfl (Or.inr (Or.inr (Or.inl rfl))) (hb hbytes d8) hl)⟩
end CodL
/-- the String at a is Latin-1 over a new byte[] (the heap's one new cell): the low bytes of the len chars of A from o on; every cell but a is kept -/
def Got (a : Addr) (D : Cell) (fV fC : Field) (A : Cell) (o len : Nat) (r : Option Value) (s u : State) : Prop := r = none ∧ ∃ D' V : Cell, Blank "java/lang/String" a D' u ∧ Same D D' [fV.slot, fC.slot] ∧ D'.slots[fV.slot]? = some (.ref s.heap.size) ∧ D'.slots[fC.slot]? = some (.int 0) ∧ Arr .byte s.heap.size V u ∧ V.vm = .none ∧ u.vm.findClass "[B" = some V.cls ∧ V.slots.size = len ∧ (∀ j, j < len → V.slots[j]? = some (.int (lo8 (cv A (o + j))))) ∧ (∀ (y : Addr) (c : Cell), y ≠ a → s.heap[y]? = some c → u.heap[y]? = some c) ∧ u.heap.size = s.heap.size + 1
theorem Got.mv {a : Addr} {D A : Cell} {fV fC : Field} {o len : Nat} : ∀ r (U U' V V' : State), U'.heap = U.heap → V.vm.Alike V'.vm → V'.heap = V.heap → Got a D fV fC A o len r U V → Got a D fV fC A o len r U' V' :=
  fun r U U' V V' h1 hal h2 ⟨e0, D', X, a1, a2, a3, a4, a5, a6, a7, a8, a9, a10, a11⟩ => ⟨e0, D', X, a1.mv hal h2, a2, by rw [h1]; exact a3, a4, by rw [h1]; exact a5.mv hal h2, a6, by rw [hal.findClass]; exact a7, a8, a9, by rw [h1, h2]; exact a10, by rw [h1, h2]; exact a11⟩
namespace New4
def yN : MethodName := ⟨"java/lang/String", "<init>", "([CIILjava/lang/Void;)V"⟩
abbrev yB : ByteArray := jdk_42_method_149_code
theorem d0 : decode yB 0 = .ok (.aload_n 0, 1) := by decide +kernel
theorem d1 : decode yB 1 = .ok (.invokespecial 1, 3) := by decide +kernel
theorem d4 : decode yB 4 = .ok (.iload_n 3, 1) := by decide +kernel
theorem d5 : decode yB 5 = .ok (.ifCond (.ne) 22, 3) := by decide +kernel
theorem d27 : decode yB 27 = .ok (.getstatic 38, 3) := by decide +kernel
theorem d30 : decode yB 30 = .ok (.ifCond (.eq) 28, 3) := by decide +kernel
theorem d33 : decode yB 33 = .ok (.aload_n 1, 1) := by decide +kernel
theorem d34 : decode yB 34 = .ok (.iload_n 2, 1) := by decide +kernel
theorem d35 : decode yB 35 = .ok (.iload_n 3, 1) := by decide +kernel
theorem d36 : decode yB 36 = .ok (.invokestatic 177, 3) := by decide +kernel
theorem d39 : decode yB 39 = .ok (.astore 5, 2) := by decide +kernel
theorem d41 : decode yB 41 = .ok (.aload_n 0, 1) := by decide +kernel
theorem d42 : decode yB 42 = .ok (.aload 5, 2) := by decide +kernel
theorem d44 : decode yB 44 = .ok (.iload_n 3, 1) := by decide +kernel
theorem d45 : decode yB 45 = .ok (.invokestatic 47, 3) := by decide +kernel
theorem d48 : decode yB 48 = .ok (.putfield 15, 3) := by decide +kernel
theorem d51 : decode yB 51 = .ok (.aload_n 0, 1) := by decide +kernel
theorem d52 : decode yB 52 = .ok (.aload 5, 2) := by decide +kernel
theorem d54 : decode yB 54 = .ok (.putfield 9, 3) := by decide +kernel
theorem d57 : decode yB 57 = .ok (.return_, 1) := by decide +kernel
def site : List Cond := [.fieldLink "java/lang/String" 38 "java/lang/String" "COMPACT_STRINGS" "Z", Cmp3.tab, CodL.tab, .laysFinal "java/lang/String" "java/lang/String" "value" "[B", .fieldLink "java/lang/String" 9 "java/lang/String" "value" "[B", .laysFinal "java/lang/String" "java/lang/String" "coder" "B", .fieldLink "java/lang/String" 15 "java/lang/String" "coder" "B"] ++ objW "java/lang/String" 1 ++ staticW "java/lang/String" 177 Cmp3.yN ++ staticW "java/lang/String" 47 CodL.yN
def tab : Cond := tabOf yN yB 6 none site
def P (a : Addr) (D : Cell) (fV fC : Field) (b : Addr) (A : Cell) (z : Int32) (o len : Nat) (args : Array Value) (s : State) : Prop := args = #[.ref a, .ref b, .int (Int32.ofNat o), .int (Int32.ofNat len), .null] ∧ Blank "java/lang/String" a D s ∧ Found "java/lang/String" "value" "[B" fV s ∧ Found "java/lang/String" "coder" "B" fC s ∧ Ch b A s ∧ StaticIs s "java/lang/String" "COMPACT_STRINGS" "Z" (.int z) ∧ ¬ z = 0 ∧ 0 < len ∧ o + len ≤ A.slots.size ∧ len ≤ 536870912 ∧ ∀ i, i < len → ¬ 255 < cv A (o + i)
def E (a : Addr) (D : Cell) (fV fC : Field) (A : Cell) (o len : Nat) (r : Option Value) (s u : State) : Prop := Got a D fV fC A o len r s u
/-- len > 0, no char of the range above 255: a Latin-1 String of their low bytes -/
theorem law (l : Launch) (a : Addr) (D : Cell) (fV fC : Field) (b : Addr) (A : Cell) (z : Int32) (o len : Nat) : Law l yN 5 4 2 35 yB 6 none site (P a D fV fC b A z o len) (E a D fV fC A o len) [⟨a, fC.slot⟩, ⟨a, fV.slot⟩] 1 len := by
  refine Law.of_walk (plainFor_of_name (by decide +kernel)) (by decide +kernel) (by decide +kernel) (by decide) (fun _ _ h => by rw [h.1]; rfl) (fun _ U U' hal hh h => ⟨h.1, h.2.1.mv hal hh, h.2.2.1.al hal, h.2.2.2.1.al hal, h.2.2.2.2.1.mv hal hh, h.2.2.2.2.2.1.there hal hh, h.2.2.2.2.2.2⟩) (fun r U U' V V' h1 hal h2 h => Got.mv r U U' V V' h1 hal h2 h) ?_
  intro p e s m args below meth c s₁ X0 hexec hbytes hml hret hlk hnm hown hh0 W hP
  obtain ⟨rfl, hB, f1, f2, hA, s1, hz, l0, l1, l2, hp⟩ := hP
  have a31 := hA.1.2.2.2
  have c1 : Steps p.tables e below (s₁.setTop (entryFrame m #[.ref a, .ref b, .int (Int32.ofNat o), .int (Int32.ofNat len), .null] 6)) (s₁.setTop (mkF m 0 #[.val (.ref a), .val (.ref b), .val (.int (Int32.ofNat o)), .val (.int (Int32.ofNat len)), .val .null, .unset] [])) := entry rfl
  have c2 : Steps p.tables e below (s₁.setTop (entryFrame m #[.ref a, .ref b, .int (Int32.ofNat o), .int (Int32.ofNat len), .null] 6)) (s₁.setTop (mkF m 1 #[.val (.ref a), .val (.ref b), .val (.int (Int32.ofNat o)), .val (.int (Int32.ofNat len)), .val .null, .unset] [.ref a])) := c1.trans (by
    refine XS.aloadN X0.here hexec rfl (hb hbytes d0) rfl rfl ?_
    exact Steps.refl _)
  obtain ⟨T3, X3, q3, st3⟩ := X0.oinit hexec hown (wks W (objW "java/lang/String" 1)) (g := (mkF m 1 #[.val (.ref a), .val (.ref b), .val (.int (Int32.ofNat o)), .val (.int (Int32.ofNat len)), .val .null, .unset] [.ref a])) rfl (by rw [hml]; rfl) (rest := []) rfl (hb hbytes d1) (W := 0) (by show 2 * 0 + 0 ≤ _; decide) (Nat.le_of_ble_eq_true rfl) (Nat.le_of_ble_eq_true rfl)
  have hh3 := q3.trans hh0
  have c4 : Steps p.tables e below (s₁.setTop (entryFrame m #[.ref a, .ref b, .int (Int32.ofNat o), .int (Int32.ofNat len), .null] 6)) (T3.setTop (mkF m 27 #[.val (.ref a), .val (.ref b), .val (.int (Int32.ofNat o)), .val (.int (Int32.ofNat len)), .val .null, .unset] [])) := (c2.trans (st3 _ (Steps.refl _))).trans (by
    refine XS.iloadN X3.here hexec rfl (hb hbytes d4) rfl ?_
    refine XS.ifYes X3.here hexec rfl (pc0 := 5) rfl (hb hbytes d5) rfl (i0_ne_t (nz32 (by omega) l0)) (by decide) rfl ?_
    exact Steps.refl _)
  obtain ⟨T5, X5, q5, st5⟩ := X3.sget hexec hown (wk W (.fieldLink "java/lang/String" 38 "java/lang/String" "COMPACT_STRINGS" "Z")) s1 (fun _ _ h => by rw [hh3]; exact h) (g := (mkF m 27 #[.val (.ref a), .val (.ref b), .val (.int (Int32.ofNat o)), .val (.int (Int32.ofNat len)), .val .null, .unset] [])) rfl (hb hbytes d27)
  have hh5 := q5.trans hh3
  have c6 : Steps p.tables e below (s₁.setTop (entryFrame m #[.ref a, .ref b, .int (Int32.ofNat o), .int (Int32.ofNat len), .null] 6)) (T5.setTop (mkF m 30 #[.val (.ref a), .val (.ref b), .val (.int (Int32.ofNat o)), .val (.int (Int32.ofNat len)), .val .null, .unset] [.int z])) := c4.trans (st5 _ (Steps.refl _))
  have c7 : Steps p.tables e below (s₁.setTop (entryFrame m #[.ref a, .ref b, .int (Int32.ofNat o), .int (Int32.ofNat len), .null] 6)) (T5.setTop (mkF m 36 #[.val (.ref a), .val (.ref b), .val (.int (Int32.ofNat o)), .val (.int (Int32.ofNat len)), .val .null, .unset] [.int (Int32.ofNat len), .int (Int32.ofNat o), .ref b])) := c6.trans (by
    refine XS.ifNo X5.here hexec rfl (hb hbytes d30) rfl (i0_eq_f hz) ?_
    refine XS.aloadN X5.here hexec rfl (hb hbytes d33) rfl rfl ?_
    refine XS.iloadN X5.here hexec rfl (hb hbytes d34) rfl ?_
    refine XS.iloadN X5.here hexec rfl (hb hbytes d35) rfl ?_
    exact Steps.refl _)
  obtain ⟨v8, T8, X8, E8, g8⟩ := X5.callS hexec (Cmp3.law l b A o len) hown (wks W (staticW "java/lang/String" 177 Cmp3.yN)) (wk W Cmp3.tab) (W := 0) (Nat.le_of_ble_eq_true rfl) (Nat.le_of_ble_eq_true rfl) (Nat.le_refl _) (by show 0 + len ≤ len; omega) (g := (mkF m 36 #[.val (.ref a), .val (.ref b), .val (.int (Int32.ofNat o)), .val (.int (Int32.ofNat len)), .val .null, .unset] [.int (Int32.ofNat len), .int (Int32.ofNat o), .ref b])) rfl (by rw [hml]; rfl) c7 (argsL := [.ref b, .int (Int32.ofNat o), .int (Int32.ofNat len)]) (rest := []) rfl rfl (by show 2 * 0 + 0 ≤ _; decide) (hb hbytes d36) (⟨rfl, hA.mv X5.warmed.alike hh5, l1, l2, hp⟩)
  obtain ⟨e8, z8⟩ := E8
  obtain ⟨rfl, N, n1, n2, n3, n4, n5, n6⟩ := NewArr.mv _ T5 s _ _ hh5.symm (Vm.Alike.refl _) rfl e8
  rw [hh5] at z8
  have hB1 := hB.keep X8.warmed.alike (n6 _ _ hB.1)
  have hne : s.heap.size ≠ a := (Nat.ne_of_lt (Array.getElem?_eq_some_iff.mp hB.1).1).symm
  have c9 : Steps p.tables e below (s₁.setTop (entryFrame m #[.ref a, .ref b, .int (Int32.ofNat o), .int (Int32.ofNat len), .null] 6)) (T8.setTop (mkF m 39 #[.val (.ref a), .val (.ref b), .val (.int (Int32.ofNat o)), .val (.int (Int32.ofNat len)), .val .null, .unset] [.ref s.heap.size])) := g8
  have c10 : Steps p.tables e below (s₁.setTop (entryFrame m #[.ref a, .ref b, .int (Int32.ofNat o), .int (Int32.ofNat len), .null] 6)) (T8.setTop (mkF m 45 #[.val (.ref a), .val (.ref b), .val (.int (Int32.ofNat o)), .val (.int (Int32.ofNat len)), .val .null, .val (.ref s.heap.size)] [.int (Int32.ofNat N.slots.size), .ref s.heap.size, .ref a])) := by
    have hc : Steps p.tables e below (s₁.setTop (entryFrame m #[.ref a, .ref b, .int (Int32.ofNat o), .int (Int32.ofNat len), .null] 6)) (T8.setTop (mkF m 45 #[.val (.ref a), .val (.ref b), .val (.int (Int32.ofNat o)), .val (.int (Int32.ofNat len)), .val .null, .val (.ref s.heap.size)] [.int (Int32.ofNat len), .ref s.heap.size, .ref a])) := c9.trans (by
      refine XS.astore X8.here hexec rfl (hb hbytes d39) rfl rfl rfl ?_
      refine XS.aloadN X8.here hexec rfl (hb hbytes d41) rfl rfl ?_
      refine XS.aload X8.here hexec rfl (hb hbytes d42) rfl rfl ?_
      refine XS.iloadN X8.here hexec rfl (hb hbytes d44) rfl ?_
      exact Steps.refl _)
    rw [n4]; exact hc
  obtain ⟨v11, T11, X11, E11, g11⟩ := X8.callS hexec (CodL.law l s.heap.size N) hown (wks W (staticW "java/lang/String" 47 CodL.yN)) (wk W CodL.tab) (W := 1) (Nat.le_of_ble_eq_true rfl) (Nat.le_of_ble_eq_true rfl) (Nat.le_refl _) (by show 0 + len + 0 ≤ len; omega) (g := (mkF m 45 #[.val (.ref a), .val (.ref b), .val (.int (Int32.ofNat o)), .val (.int (Int32.ofNat len)), .val .null, .val (.ref s.heap.size)] [.int (Int32.ofNat N.slots.size), .ref s.heap.size, .ref a])) rfl (by rw [hml]; rfl) c10 (argsL := [.ref s.heap.size, .int (Int32.ofNat N.slots.size)]) (rest := [.ref a]) rfl rfl (by show 2 * 0 + (1 + 0) ≤ _; decide) (hb hbytes d45) (⟨rfl, n1⟩)
  obtain ⟨rfl, q11⟩ := E11
  have hB11 := hB1.mv (X8.warmed.alike.symm.trans X11.warmed.alike) q11
  have c12 : Steps p.tables e below (s₁.setTop (entryFrame m #[.ref a, .ref b, .int (Int32.ofNat o), .int (Int32.ofNat len), .null] 6)) (T11.setTop (mkF m 48 #[.val (.ref a), .val (.ref b), .val (.int (Int32.ofNat o)), .val (.int (Int32.ofNat len)), .val .null, .val (.ref s.heap.size)] [.int 0, .ref a])) := g11
  obtain ⟨T13, X13, p13, bl13, sl13, st13⟩ := X11.finit hexec hown (wk W (.fieldLink "java/lang/String" 15 "java/lang/String" "coder" "B")) (Or.inr ⟨_, (wk W (.laysFinal "java/lang/String" "java/lang/String" "coder" "B"))⟩) (Or.inl ⟨rfl, hnm⟩) f2 (Or.inl rfl) hB11 (t := .byte) (by decide +kernel) rfl (g := (mkF m 48 #[.val (.ref a), .val (.ref b), .val (.int (Int32.ofNat o)), .val (.int (Int32.ofNat len)), .val .null, .val (.ref s.heap.size)] [.int 0, .ref a])) rfl (rest := []) rfl (hb hbytes d48)
  have c14 : Steps p.tables e below (s₁.setTop (entryFrame m #[.ref a, .ref b, .int (Int32.ofNat o), .int (Int32.ofNat len), .null] 6)) (T13.setTop (mkF m 54 #[.val (.ref a), .val (.ref b), .val (.int (Int32.ofNat o)), .val (.int (Int32.ofNat len)), .val .null, .val (.ref s.heap.size)] [.ref s.heap.size, .ref a])) := (c12.trans (st13 _ (Steps.refl _))).trans (by
    refine XS.aloadN X13.here hexec rfl (hb hbytes d51) rfl rfl ?_
    refine XS.aload X13.here hexec rfl (hb hbytes d52) rfl rfl ?_
    exact Steps.refl _)
  obtain ⟨T15, X15, p15, bl15, sl15, st15⟩ := X13.finit hexec hown (wk W (.fieldLink "java/lang/String" 9 "java/lang/String" "value" "[B")) (Or.inr ⟨_, (wk W (.laysFinal "java/lang/String" "java/lang/String" "value" "[B"))⟩) (Or.inl ⟨rfl, hnm⟩) f1 (Or.inl rfl) bl13 (t := (.array .byte)) (by decide +kernel) rfl (g := (mkF m 54 #[.val (.ref a), .val (.ref b), .val (.int (Int32.ofNat o)), .val (.int (Int32.ofNat len)), .val .null, .val (.ref s.heap.size)] [.ref s.heap.size, .ref a])) rfl (rest := []) rfl (hb hbytes d54)
  have c16 : Steps p.tables e below (s₁.setTop (entryFrame m #[.ref a, .ref b, .int (Int32.ofNat o), .int (Int32.ofNat len), .null] 6)) (T15.setTop (mkF m 57 #[.val (.ref a), .val (.ref b), .val (.int (Int32.ofNat o)), .val (.int (Int32.ofNat len)), .val .null, .val (.ref s.heap.size)] [])) := c14.trans (st15 _ (Steps.refl _))
  have ap := apart (Or.inr ⟨_, (wk W (.laysFinal "java/lang/String" "java/lang/String" "value" "[B"))⟩) (Or.inr ⟨_, (wk W (.laysFinal "java/lang/String" "java/lang/String" "coder" "B"))⟩) f1 f2 (t₁ := .array .byte) (t₂ := .byte) (by decide +kernel) (by decide +kernel) (by decide)
  have al := X8.warmed.alike.symm.trans X15.warmed.alike
  have n7 : T11.heap[s.heap.size]? = some N := by rw [q11]; exact n1.1
  exact ⟨T15, none, _, _, _, X15, by simp, rfl, by omega, (fun _ => rfl), ⟨rfl, _, N, bl15, ((Same.refl D _).set _ (by simp)).set _ (by simp), sl15, (Cell.slots_setSlot_ne _ ap).trans sl13, n1.keep al (p15.other hne (p13.other hne n7)), n2, by rw [al.findClass]; exact n3, n4, n5, fun y c h1 h2 => p15.other h1 (p13.other h1 (by rw [q11]; exact n6 y c h2)), by rw [p15.2.2, p13.2.2, q11]; exact z8⟩, fun fs hl => c16.trans (X15.returnOut hexec hret (hb hbytes d57) hl)⟩
end New4
namespace New1
def yN : MethodName := ⟨"java/lang/String", "<init>", "([C)V"⟩
abbrev yB : ByteArray := jdk_42_method_3_code
theorem d0 : decode yB 0 = .ok (.aload_n 0, 1) := by decide +kernel
theorem d1 : decode yB 1 = .ok (.aload_n 1, 1) := by decide +kernel
theorem d2 : decode yB 2 = .ok (.iconst 0, 1) := by decide +kernel
theorem d3 : decode yB 3 = .ok (.aload_n 1, 1) := by decide +kernel
theorem d4 : decode yB 4 = .ok (.arraylength, 1) := by decide +kernel
theorem d5 : decode yB 5 = .ok (.aconst_null, 1) := by decide +kernel
theorem d6 : decode yB 6 = .ok (.invokespecial 27, 3) := by decide +kernel
theorem d9 : decode yB 9 = .ok (.return_, 1) := by decide +kernel
def site : List Cond := [New4.tab] ++ initW "java/lang/String" 27 New4.yN
def tab : Cond := tabOf yN yB 2 none site
def P (a : Addr) (D : Cell) (fV fC : Field) (b : Addr) (A : Cell) (z : Int32) (args : Array Value) (s : State) : Prop := args = #[.ref a, .ref b] ∧ Blank "java/lang/String" a D s ∧ Found "java/lang/String" "value" "[B" fV s ∧ Found "java/lang/String" "coder" "B" fC s ∧ Ch b A s ∧ StaticIs s "java/lang/String" "COMPACT_STRINGS" "Z" (.int z) ∧ ¬ z = 0 ∧ 0 < A.slots.size ∧ A.slots.size ≤ 536870912 ∧ ∀ i, i < A.slots.size → ¬ 255 < cv A i
def E (a : Addr) (D : Cell) (fV fC : Field) (A : Cell) (r : Option Value) (s u : State) : Prop := Got a D fV fC A 0 A.slots.size r s u
/-- new String(chars), not empty, no char above 255: a Latin-1 String of their low bytes -/
theorem law (l : Launch) (a : Addr) (D : Cell) (fV fC : Field) (b : Addr) (A : Cell) (z : Int32) : Law l yN 2 1 3 52 yB 2 none site (P a D fV fC b A z) (E a D fV fC A) [⟨a, fC.slot⟩, ⟨a, fV.slot⟩] 1 A.slots.size := by
  refine Law.of_walk (plainFor_of_name (by decide +kernel)) (by decide +kernel) (by decide +kernel) (by decide) (fun _ _ h => by rw [h.1]; rfl) (fun _ U U' hal hh h => ⟨h.1, h.2.1.mv hal hh, h.2.2.1.al hal, h.2.2.2.1.al hal, h.2.2.2.2.1.mv hal hh, h.2.2.2.2.2.1.there hal hh, h.2.2.2.2.2.2⟩) (fun r U U' V V' h1 hal h2 h => Got.mv r U U' V V' h1 hal h2 h) ?_
  intro p e s m args below meth c s₁ X0 hexec hbytes hml hret hlk hnm hown hh0 W hP
  obtain ⟨rfl, hB, f1, f2, hA, s1, hz, l0, l2, hp⟩ := hP
  have c1 : Steps p.tables e below (s₁.setTop (entryFrame m #[.ref a, .ref b] 2)) (s₁.setTop (mkF m 0 #[.val (.ref a), .val (.ref b)] [])) := entry rfl
  have c2 : Steps p.tables e below (s₁.setTop (entryFrame m #[.ref a, .ref b] 2)) (s₁.setTop (mkF m 6 #[.val (.ref a), .val (.ref b)] [.null, .int (Int32.ofNat A.slots.size), .int 0, .ref b, .ref a])) := c1.trans (by
    refine XS.aloadN X0.here hexec rfl (hb hbytes d0) rfl rfl ?_
    refine XS.aloadN X0.here hexec rfl (hb hbytes d1) rfl rfl ?_
    refine iconstV X0.here hexec rfl 0 (hb hbytes d2) (by decide) ?_
    refine XS.aloadN X0.here hexec rfl (hb hbytes d3) rfl rfl ?_
    refine X0.alen hexec (hA.1.mv X0.warmed.alike hh0) rfl rfl (hb hbytes d4) ?_
    refine XS.aconstNull X0.here hexec rfl (hb hbytes d5) ?_
    exact Steps.refl _)
  obtain ⟨v3, T3, X3, E3, g3⟩ := X0.callN hexec (New4.law l a D fV fC b A z 0 A.slots.size) rfl hown (wks W (initW "java/lang/String" 27 New4.yN)) (W New4.tab (by simp only [site, List.mem_cons, List.mem_append, true_or, or_true])) (W := 0) (Nat.le_of_ble_eq_true rfl) (Nat.le_of_ble_eq_true rfl) (Nat.le_refl _) (by show 0 + A.slots.size ≤ A.slots.size; omega) (g := (mkF m 6 #[.val (.ref a), .val (.ref b)] [.null, .int (Int32.ofNat A.slots.size), .int (Int32.ofNat 0), .ref b, .ref a])) rfl (by rw [hml]; rfl) c2 (argsL := [.ref b, .int (Int32.ofNat 0), .int (Int32.ofNat A.slots.size), .null]) (rest := []) rfl rfl (by show 2 * 0 + 0 ≤ _; decide) (hb hbytes d6) (⟨rfl, hB.mv X0.warmed.alike hh0, f1.al X0.warmed.alike, f2.al X0.warmed.alike, hA.mv X0.warmed.alike hh0, s1.there X0.warmed.alike hh0, hz, l0, by omega, l2, fun i hi => by rw [Nat.zero_add]; exact hp i hi⟩)
  have e0 := Got.mv _ s₁ s _ _ hh0.symm (Vm.Alike.refl _) rfl E3
  obtain rfl := e0.1
  have c4 : Steps p.tables e below (s₁.setTop (entryFrame m #[.ref a, .ref b] 2)) (T3.setTop (mkF m 9 #[.val (.ref a), .val (.ref b)] [])) := g3
  exact ⟨T3, none, _, _, _, X3, by simp, rfl, by omega, (fun _ => rfl), e0, fun fs hl => c4.trans (X3.returnOut hexec hret (hb hbytes d9) hl)⟩
theorem pays {l : Launch} {R : Room} {p : Program} {e : Env} {below : List Frame} {s : State} {sargs : Array Value} {len W : Nat} (a : Addr) (D : Cell) (fV fC : Field) (b : Addr) (A : Cell) (z : Int32) (htab : tab.before sargs s = true) (hfr : 4 ≤ R.frames) (hlo : W + 65 ≤ R.locals) :
    Back l R p e below s sargs yN len W (fun A₁ a₁ => A₁.cells + 1 ≤ R.cells ∧ A₁.slots + A.slots.size ≤ R.slots ∧ P a D fV fC b A z a₁ A₁.U) (fun A₁ _ v₁ B₁ => E a D fV fC A v₁ A₁.U B₁.U ∧ B₁.locs = A₁.locs ++ [⟨a, fC.slot⟩, ⟨a, fV.slot⟩] ∧ B₁.cells = A₁.cells + 1 ∧ B₁.slots = A₁.slots + A.slots.size) :=
  (law l a D fV fC b A z).pays htab hfr (by omega)
end New1
end StrChars
namespace StrChars.Road
open Jvm Sem ClassFile Op Lib Jvm.Stand Jvm.Free Jvm.Free.XT
open Jvm.Lib.Cold (StaticIs)
abbrev ST : String := "java/lang/String"
/-- every table word that New1's law asks, flat -/
abbrev words : List Jvm.Cond := [.code New1.yN New1.yB 2 none, .initialized ST, .methodLink ST 27 New4.yN, .instanceMethod New4.yN,
  .code New4.yN New4.yB 6 none, .fieldLink ST 38 ST "COMPACT_STRINGS" "Z", .laysFinal ST ST "value" "[B", .fieldLink ST 9 ST "value" "[B", .laysFinal ST ST "coder" "B", .fieldLink ST 15 ST "coder" "B",
  .methodLink ST 1 Lib.objectInit, .instanceMethod Lib.objectInit, .code Lib.objectInit ⟨#[0xb1]⟩ 1 none, .methodLink ST 177 Cmp3.yN, .static Cmp3.yN, .methodLink ST 47 CodL.yN, .static CodL.yN,
  .code Cmp3.yN Cmp3.yB 6 (some (.array .byte)), .initialized U16, .arrayClass .byte, .methodLink U16 115 Cmp5.yN, .static Cmp5.yN, .code Cmp5.yN Cmp5.yB 7 (some .int), .code CodL.yN CodL.yB 2 (some .byte)]
theorem tab_of {a : Array Value} {s : State} (h : ∀ w ∈ words, w.before a s = true) : New1.tab.before a s = true := by
  have h5 : Cmp5.tab.before a s = true := unparts (wk h (.code Cmp5.yN Cmp5.yB 7 (some .int))) (wks h (.initialized Cmp5.yN.cls :: Cmp5.site))
  have hc : CodL.tab.before a s = true := unparts (wk h (.code CodL.yN CodL.yB 2 (some .byte))) (wks h (.initialized CodL.yN.cls :: CodL.site))
  have q5 : ∀ w ∈ Cmp5.tab :: words, w.before a s = true := fun w hw => (List.mem_cons.mp hw).elim (fun e => e ▸ h5) (h w)
  have h3 : Cmp3.tab.before a s = true := unparts (wk q5 (.code Cmp3.yN Cmp3.yB 6 (some (.array .byte)))) (wks q5 (.initialized Cmp3.yN.cls :: Cmp3.site))
  have q3 : ∀ w ∈ Cmp3.tab :: CodL.tab :: words, w.before a s = true := fun w hw => (List.mem_cons.mp hw).elim (fun e => e ▸ h3) fun hw => (List.mem_cons.mp hw).elim (fun e => e ▸ hc) (h w)
  have h4 : New4.tab.before a s = true := unparts (wk q3 (.code New4.yN New4.yB 6 none)) (wks q3 (.initialized New4.yN.cls :: New4.site))
  have q4 : ∀ w ∈ New4.tab :: words, w.before a s = true := fun w hw => (List.mem_cons.mp hw).elim (fun e => e ▸ h4) (h w)
  exact unparts (wk q4 (.code New1.yN New1.yB 2 none)) (wks q4 (.initialized New1.yN.cls :: New1.site))
/-- the words ride from the start Z to the walk's own state -/
theorem moved {Z s : State} {a0 args : Array Value} (hZ : Z.Warmed39 s.vm) (hw : ∀ d ∈ words, d.before a0 Z = true) : ∀ d ∈ words, d.before args s = true := fun d hd => by
  have q := hw d hd
  have t : ∀ d ∈ words, d = .arrayClass .byte ∨ (d.onTables && d.keepsFace) = true := by decide +kernel
  rcases t d hd with rfl | t
  · exact RoadKit.mvA hZ q
  · exact RoadKit.mv hZ q t
/-- WHAT COMES BACK, over the tables of the start Z: h the heap at the call, h' behind it -/
def Q (Z : State) (x : Addr) (A : Cell) (h : Heap) (v : Option Value) (h' : Heap) (L : List Loc) : Prop := v = none ∧ (∀ y ∈ L, y.base = x) ∧ RoadKit.Keep h h' [x] ∧ h'.size = h.size + 1 ∧ RoadKit.Exa Z h' x ST ∧ RoadKit.Fld Z h' x ST "value" "[B" (.ref h.size) ∧ RoadKit.Fld Z h' x ST "coder" "B" (.int 0) ∧
  (∃ V : Cell, RoadKit.Arr Z h' h.size V .byte ∧ V.vm = .none ∧ Z.vm.findClass "[B" = some V.cls ∧ V.slots.size = A.slots.size ∧ ∀ j, j < A.slots.size → V.slots[j]? = some (.int (lo8 (cv A j)))) ∧
  ∀ (O n d : String) (w : Value), RoadKit.Fld Z h x O n d w → RoadKit.slotOf Z O n d ≠ RoadKit.slotOf Z ST "value" "[B" → RoadKit.slotOf Z O n d ≠ RoadKit.slotOf Z ST "coder" "B" → RoadKit.Fld Z h' x O n d w
/-- **new String(chars) AT A CALL, IN THE ROAD'S FORM**: for specialBack behind newO: x the fresh String, b the char[] with the cell A -/
theorem back {p : Program} {l : Launch} {e : Env} {R : Room} {s : State} {args : Array Value} {below : List Frame} {len W : Nat} {Z : State} {a0 : Array Value} {h : Heap} (hZ : Z.Warmed39 s.vm) (hw : ∀ d ∈ words, d.before a0 Z = true) {kI : Nat} (wi : (Jvm.Cond.instantiable ST kI).before a0 Z = true)
    {x b : Addr} {A : Cell} {z : Int32} {v0 c0 : Value} (E : RoadKit.Exa Z h x ST) (V : RoadKit.Fld Z h x ST "value" "[B" v0) (C : RoadKit.Fld Z h x ST "coder" "B" c0) (K : RoadKit.Arr Z h b A .char) (hty : Typed .char A) (S : RoadKit.Sta Z h ST "COMPACT_STRINGS" "Z" (.int z)) (hz : ¬ z = 0)
    (l0 : 0 < A.slots.size) (l2 : A.slots.size ≤ 536870912) (hp : ∀ i, i < A.slots.size → ¬ 255 < cv A i) (hfr : 4 ≤ R.frames) (hlo : W + 65 ≤ R.locals) :
    Back l R p e below s args New1.yN len W (fun P a => a = #[.ref x, .ref b] ∧ P.U.heap = h ∧ P.cells + 1 ≤ R.cells ∧ P.slots + A.slots.size ≤ R.slots)
      (fun P _ v B => ∃ L, Q Z x A h v B.U.heap L ∧ B.locs = P.locs ++ L ∧ B.cells = P.cells + 1 ∧ B.slots = P.slots + A.slots.size) := by
  intro m meth c P g ig mk a X hg hsize hdg hW hn hp'
  obtain ⟨rfl, rfl, r1, r2⟩ := hp'
  have al : Z.vm.Alike P.U.vm := hZ.alike.trans X.warmed.alike
  obtain ⟨D, cfV, kV, iV, fV, hD, gV, stV, knV, obV, asV, slV⟩ := id V
  obtain ⟨D', cfC, kC, iC, fC, hD', gC, stC, -, -, asC, slC⟩ := id C
  cases hD.symm.trans hD'
  obtain ⟨D2, kD, e1, e2, e3, e4, e5⟩ := id E
  cases hD.symm.trans e1
  obtain ⟨c2, k2, i1, i2, i3, -⟩ := Cond.instantiable_spec wi
  cases e2.symm.trans i1
  cases e3.symm.trans i2
  obtain ⟨kU, u1, u2⟩ := al.2.2 _ _ e3
  have hB : Blank ST x D P.U := ⟨hD, ⟨knV, fun q hq => by rw [hq] at obV; cases obV⟩, by rw [al.findClass]; exact e2, kU, u1, by rw [u2]; exact i3, by rw [u2]; exact e5 i3⟩
  have F1 : Found ST "value" "[B" fV P.U := ⟨SBG.found_only al ⟨cfV, kV, iV, gV⟩, stV⟩
  have F2 : Found ST "coder" "B" fC P.U := ⟨SBG.found_only al ⟨cfC, kC, iC, gC⟩, stC⟩
  have hA : Ch b A P.U := ⟨⟨K.1, State.isArrayOf_alike al K.2.1, K.2.2, by omega⟩, hty⟩
  have hS : StaticIs P.U ST "COMPACT_STRINGS" "Z" (.int z) := by
    obtain ⟨cfS, iS, kS, fS, st, cS, t1, t2, t3, t4, t5, t6, t7⟩ := S
    exact StaticIs.there (s := { Z with heap := P.U.heap }) ⟨cfS, iS, kS, fS, st, cS, t1, t2, t3, t4, t5, (fun q => by rw [q] at t6; cases t6), t7⟩ al rfl
  obtain ⟨v, B, X', ⟨⟨hv, E', V', q1, q2, q3, q4, q5, q6, q7, q8, q9, q10, q11⟩, hl, hc, hs⟩, st⟩ := New1.pays x D fV fC b A z (tab_of (moved hZ hw)) hfr hlo m meth c P g ig mk _ X hg hsize hdg hW hn ⟨r1, r2, rfl, hB, F1, F2, hA, hS, hz, l0, l2, hp⟩
  have al' : Z.vm.Alike B.U.vm := hZ.alike.trans X'.warmed.alike
  have hsz : E'.slots.size = D.slots.size := by
    obtain ⟨-, -, -, kB, w1, w2, w3⟩ := q1
    obtain ⟨kB', y1, y2⟩ := al'.2.2 _ _ e3
    rw [q2.2.1] at w1
    cases w1.symm.trans y1
    rw [w3, e5 i3, y2]
  refine ⟨v, B, X', ⟨_, ⟨hv, ?_, ⟨by omega, fun y cy hy hn' => q10 y cy (by simpa using hn') hy, fun y cy hy => ?_⟩, q11, ⟨E', _, q1.1, by rw [q2.2.1]; exact e2, by rw [q2.2.1]; exact e3, by rw [q2.1]; exact obV, fun _ => by rw [hsz]; exact e5 i3⟩,
    ⟨E', cfV, kV, iV, fV, q1.1, gV, stV, by rw [q2.1]; exact knV, by rw [q2.1]; exact obV, by rw [q2.2.1]; exact asV, q3⟩, ⟨E', cfC, kC, iC, fC, q1.1, gC, stC, by rw [q2.1]; exact knV, by rw [q2.1]; exact obV, by rw [q2.2.1]; exact asC, q4⟩,
    ⟨V', ⟨q5.1, State.isArrayOf_alike al'.symm q5.2.1, q5.2.2.1⟩, q6, by rw [← al'.findClass]; exact q7, q8, fun j hj => by have := q9 j hj; rwa [Nat.zero_add] at this⟩, fun O n d w F n1 n2 => ?_⟩, hl, hc, hs⟩, st⟩
  · intro y hy
    simp only [List.mem_cons, List.not_mem_nil, or_false] at hy
    rcases hy with rfl | rfl <;> rfl
  · by_cases q : y = x
    · subst q
      cases hD.symm.trans hy
      exact ⟨E', q1.1, q2.2.1, q2.1, hsz⟩
    · exact ⟨cy, q10 y cy q hy, rfl, rfl, rfl⟩
  · obtain ⟨D3, cf, k, i, f, g1, g2, g3, g4, g5, g6, g7⟩ := F
    cases hD.symm.trans g1
    simp only [RoadKit.slotOf, g2, gV, gC, Option.map_some, Option.getD_some] at n1 n2
    exact ⟨E', cf, k, i, f, q1.1, g2, g3, by rw [q2.1]; exact g4, by rw [q2.1]; exact g5, by rw [q2.2.1]; exact g6, by rw [q2.2.2 f.slot (by simp [n1, n2])]; exact g7⟩
end StrChars.Road
namespace StrChars.Road
open Jvm Sem ClassFile Op Lib Jvm.Stand Jvm.Free Jvm.Free.XT
/-- WHAT COMES BACK, the byte[] as a list of values -/
def QA (Z : State) (x : Addr) (zn : Int32) (cs : List Int32) (h : Heap) (v : Option Value) (h' : Heap) (L : List Loc) : Prop := v = none ∧ (∀ y ∈ L, y.base = x) ∧ RoadKit.Keep h h' [x] ∧ h'.size = h.size + 1 ∧ RoadKit.Exa Z h' x ST ∧ RoadKit.Fld Z h' x ST "value" "[B" (.ref h.size) ∧ RoadKit.Fld Z h' x ST "coder" "B" (.int 0) ∧
  (∃ kb, Z.vm.findClass "[B" = some kb ∧ RoadKit.Arv Z h' h.size kb .byte zn (cs.map fun c => .int (lo8 c)) (.int 0)) ∧
  ∀ (O n d : String) (w : Value), RoadKit.Fld Z h x O n d w → RoadKit.slotOf Z O n d ≠ RoadKit.slotOf Z ST "value" "[B" → RoadKit.slotOf Z O n d ≠ RoadKit.slotOf Z ST "coder" "B" → RoadKit.Fld Z h' x O n d w
/-- **new String(chars) AT A CALL, THE ARRAYS AS LISTS**: the char[] at b holds cs, not empty, no char above 255 -/
theorem backArv {p : Program} {l : Launch} {e : Env} {R : Room} {s : State} {args : Array Value} {below : List Frame} {len W : Nat} {Z : State} {a0 : Array Value} {h : Heap} (hZ : Z.Warmed39 s.vm) (hw : ∀ d ∈ words, d.before a0 Z = true) {kI : Nat} (wi : (Jvm.Cond.instantiable ST kI).before a0 Z = true)
    {x b : Addr} {k : ClassId} {zn z : Int32} {cs : List Int32} {dv v0 c0 : Value} (E : RoadKit.Exa Z h x ST) (V : RoadKit.Fld Z h x ST "value" "[B" v0) (C : RoadKit.Fld Z h x ST "coder" "B" c0) (K : RoadKit.Arv Z h b k .char zn (cs.map Value.int) dv) (S : RoadKit.Sta Z h ST "COMPACT_STRINGS" "Z" (.int z)) (hz : ¬ z = 0)
    (hlen : zn.toNatClampNeg = cs.length) (h0 : 0 < cs.length) (hbig : cs.length ≤ 536870912) (hall : ∀ c ∈ cs, ¬ 255 < c) (hfr : 4 ≤ R.frames) (hlo : W + 65 ≤ R.locals) :
    Back l R p e below s args New1.yN len W (fun P a => a = #[.ref x, .ref b] ∧ P.U.heap = h ∧ P.cells + 1 ≤ R.cells ∧ P.slots + cs.length ≤ R.slots)
      (fun P _ v B => ∃ L, QA Z x zn cs h v B.U.heap L ∧ B.locs = P.locs ++ L ∧ B.cells = P.cells + 1 ∧ B.slots = P.slots + cs.length) := by
  obtain ⟨A, K1, K2, K3, K4, K5, K6⟩ := K
  have e : A.slots.size = cs.length := K3.trans hlen
  have hat : ∀ (i : Nat) (hi : i < cs.length), A.slots[i]? = some (.int cs[i]) := fun i hi => by rw [K5 i (by omega)]; simp [List.getD_eq_getElem?_getD, hi]
  have hcv : ∀ (i : Nat) (hi : i < cs.length), cv A i = cs[i] := fun i hi => by unfold cv; rw [hat i hi]
  have hty : Typed .char A := fun i v hv => by
    have hi : i < A.slots.size := (Array.getElem?_eq_some_iff.mp hv).1
    have q := K5 i hi
    rw [hv] at q
    rw [Option.some.inj q]
    exact K6 i hi
  refine Back.mono (back hZ hw wi E V C K1 hty S hz (by omega) (by omega) (fun i hi => by rw [hcv i (by omega)]; exact hall _ (List.getElem_mem _)) hfr hlo) (fun P a hp => ⟨hp.1, hp.2.1, hp.2.2.1, by rw [e]; exact hp.2.2.2⟩) (fun P a v B hp hq => ?_)
  obtain ⟨L, ⟨q1, q2, q3, q4, q5, q6, q7, ⟨V', v1, v2, v3, v4, v5⟩, q9⟩, hl, hc, hs⟩ := hq
  refine ⟨L, ⟨q1, q2, q3, q4, q5, q6, q7, ⟨V'.cls, v3, V', v1, rfl, by rw [v4, e, hlen], K4, fun i hi => ?_, fun i hi => ?_⟩, q9⟩, hl, hc, by rw [hs, e]⟩
  · have hi' : i < cs.length := by omega
    rw [v5 i (by omega), hcv i hi']; simp [List.getD_eq_getElem?_getD, hi']
  · have hi' : i < cs.length := by omega
    simp only [List.getD_eq_getElem?_getD, List.getElem?_map, List.getElem?_eq_getElem hi', Option.map_some, Option.getD_some]
    exact fits_lo8 _
end StrChars.Road
namespace StrChars.Road
open Jvm Sem ClassFile Op Lib Jvm.Stand Jvm.Free Jvm.Free.XT
/-- WHAT COMES BACK, in the writer's own shape -/
def QV (Z : State) (x : Addr) (N : Int32) (bs : List Int32) (h : Heap) (n0 : Nat) (v : Option Value) (h' : Heap) (L : List Loc) : Prop := v = none ∧ RoadKit.Fr n0 L ∧ RoadKit.Keep h h' [x] ∧ RoadKit.Exa Z h' x ST ∧ RoadKit.Fld Z h' x ST "coder" "B" (.int 0) ∧
  ∃ (t : Addr) (kb : ClassId), n0 ≤ t ∧ h.size ≤ t ∧ ¬ t = x ∧ RoadKit.Fld Z h' x ST "value" "[B" (.ref t) ∧ RoadKit.Arv Z h' t kb .byte N (bs.map Value.int) (.int 0)
/-- **new String(chars) AT A CALL, FOR THE WRITER**: a char[] of n known ints, each 0 to 255 -/
theorem backV {p : Program} {l : Launch} {e : Env} {R : Room} {s : State} {args : Array Value} {below : List Frame} {len W : Nat} {Z : State} {a0 : Array Value} {h : Heap} (hZ : Z.Warmed39 s.vm) (hw : ∀ d ∈ words, d.before a0 Z = true) {kI : Nat} (wi : (Jvm.Cond.instantiable ST kI).before a0 Z = true)
    {x b : Addr} {kC : ClassId} {cs bs : List Int32} {d v0 c0 : Value} {z N : Int32} {n n0 : Nat} (hx0 : n0 ≤ x) (hh0 : n0 ≤ h.size) (E : RoadKit.Exa Z h x ST) (V : RoadKit.Fld Z h x ST "value" "[B" v0) (C : RoadKit.Fld Z h x ST "coder" "B" c0) (K : RoadKit.Arv Z h b kC .char N (cs.map Value.int) d) (S : RoadKit.Sta Z h ST "COMPACT_STRINGS" "Z" (.int z)) (hz : ¬ z = 0)
    (hn : cs.length = n) (hN : N = Int32.ofNat n) (l0 : 0 < n) (l2 : n ≤ 4000) (hp : ∀ c ∈ cs, ¬ c < 0 ∧ ¬ (255 : Int32) < c) (hb : bs = cs.map (fun c => c.toInt8.toInt32)) (hfr : 4 ≤ R.frames) (hlo : W + 65 ≤ R.locals) :
    Back l R p e below s args (⟨"java/lang/String", "<init>", "([C)V"⟩ : MethodName) len W (fun P a => a = #[.ref x, .ref b] ∧ P.U.heap = h ∧ P.cells + 1 ≤ R.cells ∧ P.slots + n ≤ R.slots)
      (fun P _ v B => ∃ L, QV Z x N bs h n0 v B.U.heap L ∧ B.locs = P.locs ++ L ∧ B.cells = P.cells + 1 ∧ B.slots = P.slots + n) := by
  subst hn hN hb
  refine Back.mono (backArv hZ hw wi E V C K S hz (n32 (by omega)) l0 (by omega) (fun c hc => (hp c hc).2) hfr hlo) (fun P a hp => hp) (fun P a v B hp hq => ?_)
  obtain ⟨L, ⟨q1, q2, q3, q4, q5, q6, q7, ⟨kb, v1, v2⟩, q9⟩, hl, hc, hs⟩ := hq
  exact ⟨L, ⟨q1, fun y hy => by rw [q2 y hy]; exact hx0, q3, q5, q7, h.size, kb, hh0, Nat.le_refl _, Nat.ne_of_gt E.lt, q6, by rw [List.map_map]; exact v2⟩, hl, hc, hs⟩
end StrChars.Road
end Jvm.Pilot.@@N@@
namespace Jvm.RoadKit
open Sem ClassFile Op Lib Bundle Jvm.Stand Jvm.Free Jvm.LawKit Jvm.Free.SB Jvm.Free.SBG
/-- a String whose array is not set yet is no constant's -/
theorem own_safe_null {Z : State} {h : Heap} {vm : Vm} {EL : List (String × Nat)} {a : Addr} (hal : Z.vm.Alike vm) (E : Exa Z h a "java/lang/String") (F : Fld Z h a "java/lang/String" "value" "[B" .null) : Safe Z EL vm h a := fun B => by
  obtain ⟨cell, k, e1, e2, e3, -, -⟩ := E
  obtain ⟨cell', cf, k', i, f, f1, f2, f3, f4, -, -, f7⟩ := F
  cases e1.symm.trans f1
  obtain ⟨p, -, u, b, -, q, -, SB, rfl | rfl⟩ := B
  · cases (show h[q.sa]? = some q.sC from SB.ha).symm.trans e1
    obtain ⟨cS, ⟨⟨-, -, -, ⟨c1, k1, i1, g1, -⟩, -, -, -, v1, -⟩, -⟩, -⟩ := SB
    obtain ⟨k3, e3', -⟩ := State.fieldFound?_setVm (s := Z) hal f2
    have e4 := (show (Wst Z vm h).fieldFound? "java/lang/String" "value" "[B" = some (cf, k3, i, f) from e3').symm.trans g1
    simp only [Option.some.injEq, Prod.mk.injEq] at e4
    rw [← e4.2.2.2, f7] at v1
    cases v1
  · cases (show h[q.sd]? = some q.SA from SB.hd).symm.trans e1
    obtain ⟨cS, -, -, fB, -⟩ := SB
    have fB : vm.findClass "[B" = some q.SA.cls := fB
    rw [hal.findClass] at fB
    obtain ⟨k1, q1, q2⟩ := Vm.findClass_spec fB
    obtain ⟨k2, q3, q4⟩ := Vm.findClass_spec e2
    cases q1.symm.trans q3
    exact absurd (q2.symm.trans q4) (by decide)
end Jvm.RoadKit
namespace Jvm.RoadKit
open Sem ClassFile Op Lib Jvm.Stand Jvm.Free Jvm.LawKit
section OwnRefs
variable {p : Program} {l : Launch} {e : Env} {R : Room} {s Z : State} {a0 : Array Value} {m : MethodId} {args : Array Value} {below : List Frame} {meth : Method} {c : Code} {T : State} {locs : List Loc} {cells slots : Nat} {h : Heap}
/-- a field through a resolved entry (the word fieldRef) -/
theorem own_getR (X : Stand p l e R s m args below meth c T locs cells slots) (hx : p.tables.exec = Jvm.exec) (hZ : Z.Warmed39 s.vm) {own O n d : String} {index : Nat} (hown : s.vm.findClass own = some m.cls) (w : (Cond.fieldRef own index O n d).before a0 Z = true)
    (eT : T.heap = h) {a : Addr} {v : Value} (F : Fld Z h a O n d v) {g : JFrame} (hg : g.method = m) {rest : List Value} (hs : g.stack = .ref a :: rest) (hd : decode c.code g.pc = .ok (.getfield index, 3)) : ∃ T', Stand p l e R s m args below meth c T' locs cells slots ∧ T'.heap = h ∧ ∀ target, Steps p.tables e below (T'.setTop { g with pc := g.pc + 3, stack := v :: rest }) target → Steps p.tables e below (T.setTop g) target := by
  obtain ⟨cell, cf, k, i, f, h1, h2, h3, h4, -, -, h7⟩ := F
  have hU : Z.Warmed39 T.vm := wtrans hZ X.warmed
  have w1 := Cond.fieldRef_warmed39 hU w
  have hcur : (Z.setVm T.vm).vm.findClass own = some m.cls := by
    show T.vm.findClass own = _
    rw [X.warmed.alike.findClass]; exact hown
  obtain ⟨c', k', i', f', q1, q2⟩ := Cond.fieldRef_spec hcur w1
  obtain ⟨k2, hi, -⟩ := State.fieldFound?_setVm (s := Z) hU.alike h2
  have hi' : (Z.setVm T.vm).fieldFound? O n d = some (cf, k2, i, f) := hi
  cases hi'.symm.trans q1
  refine ⟨T, X, eT, fun target hrest => ?_⟩
  subst hg
  jvm_step X.here [hx, hd, getfield.wp_ready (e := e) (s := T) (f := g) X.here.top q2 h3 hs (show T.heap[a]? = some cell by rw [eT]; exact h1) h4 h7]
  exact hrest
/-- a constructor through a resolved entry (the word methodRef) -/
theorem own_specR (X : Stand p l e R s m args below meth c T locs cells slots) (hexec : p.tables.exec = Jvm.exec) (hZ : Z.Warmed39 s.vm) {own : String} {index : Nat} {y : MethodName} (hy1 : y.name = "<init>")
    (hown : s.vm.findClass own = some m.cls) (wr : (Cond.methodRef own index y).before a0 Z = true) (wi : (Cond.instanceMethod y).before a0 Z = true)
    {bytes : ByteArray} {maxL : Nat} (wc : (Cond.code y bytes maxL none).before a0 Z = true)
    (hy : y.cls ≠ "java/lang/invoke/MethodHandle" ∧ y.cls ≠ "java/lang/invoke/VarHandle")
    {W : Nat} {Pre : Pt → Array Value → Prop} {Post : Pt → Array Value → Option Value → Pt → Prop} (hK : Back l R p e below s args y 3 W Pre Post)
    {g : JFrame} (hg : g.method = m) (hsize : g.locals.size = c.maxLocals) {s₀ : State} (hcome : Steps p.tables e below s₀ (T.setTop g)) {a : Addr} {argsL rest : List Value}
    (hlen : ∀ sig, parseMethodDescriptor y.desc = some sig → argsL.length = sig.parameters.length) (hstack : g.stack = argsL.reverse ++ .ref a :: rest) (hW : 2 * g.monitorRoom + (rest.map fun v => v.category).sum ≤ W)
    (hdg : decode c.code g.pc = .ok (.invokespecial index, 3)) (hpre : ∀ vm₁, s.WarmedH vm₁ → Pre ⟨T.setVm vm₁, locs, cells, slots⟩ (.ref a :: argsL).toArray) :
    ∃ (v : Option Value) (vm₁ : Vm) (B : Pt), s.WarmedH vm₁ ∧ Stand p l e R s m args below meth c B.U B.locs B.cells B.slots ∧ Post ⟨T.setVm vm₁, locs, cells, slots⟩ (.ref a :: argsL).toArray v B ∧
      Steps p.tables e below s₀ (B.U.setTop { g with pc := g.pc + 3, stack := v.toList ++ rest }) := by
  have hU : Z.Warmed39 T.vm := wtrans hZ X.warmed
  obtain ⟨obj, methO, hnZ, hmZ, hstO, habO⟩ := Cond.instanceMethod_spec wi
  obtain ⟨methO', cO, hmO', hcO, hbO, hlO, -, hlockO, -, hsigO⟩ := Cond.code_spec hnZ wc
  cases hmZ.symm.trans hmO'
  obtain ⟨kO, hkO, hnameO⟩ := className_of_methodNamed hnZ
  obtain ⟨hnameMO, hdescO⟩ := name_of_methodNamed hnZ hmZ
  have hnS : s.methodNamed? y = some obj := by
    have q : (Z.setVm s.vm).methodNamed? y = some obj := by rw [State.methodNamed?_setVm hZ.alike]; exact hnZ
    exact q
  have hcur : (Z.setVm T.vm).vm.findClass own = some m.cls := by
    show T.vm.findClass own = _
    rw [X.warmed.alike.findClass]; exact hown
  obtain ⟨m0, c', q1, q2, q3, q4⟩ := Cond.methodRef_named e hcur (Cond.methodRef_warmed39 hU hnZ hy wr)
  have q1' := State.methodFound?_of_named (s := Z.setVm T.vm) (show (Z.setVm T.vm).methodNamed? y = some obj by rw [State.methodNamed?_setVm hU.alike]; exact hnZ) hy
  cases q1'.symm.trans q1
  have hc' : c' = obj.cls := by
    have q5 : T.vm.findClass y.cls = some c' := q3
    rw [hU.alike.findClass, findClass_of_methodNamed hnZ] at q5
    exact (Option.some.inj q5).symm
  subst hc'
  obtain ⟨kO₂, hkO₂, heO₂⟩ := hU.alike.2.2 _ _ hkO
  have hmO₂ : T.vm.method? obj = some methO := by rw [hU.alike.method?]; exact hmZ
  have hfound : lookupSpecial T.vm obj.cls "<init>" methO.desc = .method obj := by
    rw [hU.alike.lookupSpecial, hdescO, ← hy1]; exact lookupSpecial_of_named hnZ hmZ hstO
  have hstep : ∀ target, (∀ acts, Steps p.tables e below (doInvoke e (T.setTop { g with stack := rest }) acts obj (.ref a :: argsL).toArray).1 target) → Steps p.tables e below (T.setTop g) target := by
    intro target hrest
    subst hg
    jvm_step X.here [hexec, hdg, invokespecial.wp_init (e := e) (s := T) (k := kO₂) (meth := methO) (m := obj) (a := a) (args := argsL) (rest := rest) (f := g) X.here.top q4 q2 hkO₂ hmO₂ (by rw [hnameMO]; exact hy1) hstO habO hfound (hlen _ hsigO) hstack]
    exact hrest
  have eT : T.setVm T.vm = T := rfl
  obtain ⟨v, B, X', hpost, hsteps⟩ := hK m meth c ⟨T, locs, cells, slots⟩ { g with stack := rest } (.invokespecial index) obj (Value.ref a :: argsL).toArray X hg hsize hdg hW (X.named hnS) (show Pre ⟨T, locs, cells, slots⟩ (Value.ref a :: argsL).toArray from hpre T.vm X.warmed)
  exact ⟨v, T.vm, B, X.warmed, X', hpost, (hcome.trans (hstep _ fun acts => by rw [doInvoke_state]; exact Steps.refl _)).trans hsteps⟩
/-- dup2_x1 of a long above a reference -/
theorem own_dup2x1 {tb : Tables} [Ours tb] {T target : State} {g : JFrame} (h : At T m c below) (hx : tb.exec = Jvm.exec) (hg : g.method = m) {x : Int64} {y : Addr} {rest : List Value} (hd : decode c.code g.pc = .ok (.dup2_x1, 1)) (hs : g.stack = .long x :: .ref y :: rest)
    (hr : Steps tb e below (T.setTop { g with pc := g.pc + 1, stack := .long x :: .ref y :: .long x :: rest }) target) : Steps tb e below (T.setTop g) target := by
  subst hg
  jvm_step h [h.top, hx, hd, hs, Value.category]
  exact hr
theorem own_selp {C : String} {x z y : MethodName} (hsel : (Cond.selects C x z).before a0 Z = true) (e0 : z.cls = y.cls) (hp : (Cond.privateMethod y).before a0 Z = true) (hi : (Cond.instanceMethod y).before a0 Z = true) (hy : y.cls ≠ "java/lang/invoke/MethodHandle" ∧ y.cls ≠ "java/lang/invoke/VarHandle") : (Cond.selects y.cls y y).before a0 Z = true := by
  obtain ⟨c2, r2, m2, q1, q2, q3, q4, kP, hkP, hkPi⟩ := Cond.selects_spec hsel
  have a1 := findClass_of_methodNamed q3
  rw [e0] at a1
  obtain ⟨mk, methM, hnamed, hmethM, -, -⟩ := Cond.instanceMethod_spec hi
  have a2 := findClass_of_methodNamed hnamed
  have e2 := Option.some.inj (a1.symm.trans a2)
  exact selects_self_of_private a2 (by rw [← e2]; exact hkP) hkPi (Cond.privateMethod_at hp) hi hy
end OwnRefs
end Jvm.RoadKit
namespace Jvm.RoadKit
open Sem ClassFile Op Lib Jvm.Stand Jvm.Free Jvm.LawKit
/-- the int is the list's length -/
def own_fit (vs : List Value) (n : Int32) : Prop := n.toInt = vs.length
theorem own_fit.nn {vs : List Value} {n : Int32} (h : own_fit vs n) : ¬ n < 0 := by
  rw [Int32.lt_iff_toInt_lt]; have e : (0 : Int32).toInt = 0 := rfl
  unfold own_fit at h; omega
theorem own_fit.cl {vs : List Value} {n : Int32} (h : own_fit vs n) : n.toNatClampNeg = vs.length := by
  unfold own_fit at h; simp only [Int32.toNatClampNeg]; omega
theorem own_fit.add {us vs : List Value} {n m : Int32} (h : own_fit us n) (k : own_fit vs m) (b : us.length + vs.length ≤ 100000) : own_fit (us ++ vs) (n + m) := by
  unfold own_fit at *
  rw [List.length_append]
  have c1 := c_iadd n m
  have c2 := Int32.toInt_lt (n + m)
  have c3 := Int32.le_toInt (n + m)
  omega
theorem own_fit.cap {us vs : List Value} {n m : Int32} (h : own_fit us n) (k : own_fit vs m) (b : us.length + vs.length ≤ 16) : ¬ ((0 : Int32) < ((n + m) - (16 : Int32))) := by
  have f := own_fit.add h k (by omega)
  unfold own_fit at f
  rw [List.length_append] at f
  rw [Int32.lt_iff_toInt_lt]
  have e : (0 : Int32).toInt = 0 := rfl
  have e1 : (16 : Int32).toInt = 16 := rfl
  have c1 := c_isub (n + m) 16
  have c2 := Int32.toInt_lt ((n + m) - 16)
  have c3 := Int32.le_toInt ((n + m) - 16)
  omega
theorem own_fit.lt {vs : List Value} {n : Int32} (h : own_fit vs n) (b : vs.length ≤ 15) : n < (16 : Int32) := by
  rw [Int32.lt_iff_toInt_lt]; have e : (16 : Int32).toInt = 16 := rfl
  unfold own_fit at h; omega
theorem own_fit.ne {vs : List Value} {n : Int32} (h : own_fit vs n) (b : vs.length ≤ 15) : ¬ (n = (16 : Int32)) := fun q => by
  have e : (16 : Int32).toInt = 16 := rfl
  unfold own_fit at h; rw [q] at h; omega
theorem own_shl0 (x : Int32) : x <<< ((0 : Int32) &&& 31) = x := by
  have e : ((0 : Int32) &&& 31) = 0 := by decide
  rw [e]; exact Int32.shiftLeft_zero
theorem own_shr0 (x : Int32) : x >>> ((0 : Int32) &&& 31) = x := by
  have e : ((0 : Int32) &&& 31) = 0 := by decide
  rw [e]; exact Int32.shiftRight_zero
theorem own_sub0 (x : Int32) : x - (0 : Int32) = x := by simp
theorem own_same {Z : State} {a0 : Array Value} {C : String} {x z y : MethodName} (hsel : (Cond.selects C x z).before a0 Z = true) (e0 : z.cls = y.cls) (hi : (Cond.instanceMethod y).before a0 Z = true) (hy : y.cls ≠ "java/lang/invoke/MethodHandle" ∧ y.cls ≠ "java/lang/invoke/VarHandle") : (Cond.sameMethod y.cls y.cls y.name y.desc).before a0 Z = true := by
  obtain ⟨c2, r2, m2, q1, q2, q3, q4, kP, hkP, hkPi⟩ := Cond.selects_spec hsel
  have a1 := findClass_of_methodNamed q3
  rw [e0] at a1
  obtain ⟨mk, methM, hnamed, hmethM, -, -⟩ := Cond.instanceMethod_spec hi
  have hf := State.methodFound?_of_named hnamed hy
  simp [Cond.before, Cond.holds, Cond.value, a1, hf, hnamed, hkP, hkPi]
/-- the builder's array holds the list and is not too long -/
def own_cap (us : List Value) (cp : Int32) : Prop := (us.length : Int) ≤ cp.toInt ∧ 16 ≤ cp.toInt ∧ (cp.toInt = 16 ∨ cp.toInt = 34 ∨ cp.toInt = 70 ∨ cp.toInt = 142)
def own_mn (mn cp : Int32) : Prop := 0 ≤ mn.toInt ∧ mn.toInt ≤ 125 ∧ mn.toInt ≤ 2 * cp.toInt + 2
theorem own_cap.nn {us : List Value} {cp : Int32} (h : own_cap us cp) : ¬ cp < 0 := by
  rw [Int32.lt_iff_toInt_lt]; have e : (0 : Int32).toInt = 0 := rfl
  obtain ⟨h1, h2, h3⟩ := h; omega
theorem own_cap.le {us : List Value} {cp : Int32} (h : own_cap us cp) : us.length ≤ cp.toNatClampNeg := by
  obtain ⟨h1, h2, h3⟩ := h; simp only [Int32.toNatClampNeg]; omega
theorem own_mn_of {us vs : List Value} {n m cp : Int32} (h : own_fit us n) (k : own_fit vs m) (b : us.length + vs.length ≤ 125) (b2 : ((us.length + vs.length : Nat) : Int) ≤ 2 * cp.toInt + 2) : own_mn (n + m) cp := by
  have f := own_fit.add h k (by omega)
  unfold own_fit at f; rw [List.length_append] at f
  exact ⟨by omega, by omega, by omega⟩
theorem own_no {us vs : List Value} {n m cp : Int32} (h : own_fit us n) (k : own_fit vs m) (hc : own_cap us cp) (q : us.length + vs.length ≤ cp.toNatClampNeg) : ¬ ((0 : Int32) < ((n + m) - cp)) := by
  obtain ⟨h1, h2, h3⟩ := hc
  simp only [Int32.toNatClampNeg] at q
  have f := own_fit.add h k (by omega)
  unfold own_fit at f; rw [List.length_append] at f
  have c1 := c_isub (n + m) cp
  have c2 := rng32 ((n + m) - cp)
  rw [Int32.lt_iff_toInt_lt]; have e : (0 : Int32).toInt = 0 := rfl
  omega
theorem own_gt {us : List Value} {mn cp : Int32} (hm : own_mn mn cp) (hc : own_cap us cp) : (0 : Int32) < (mn - cp) ↔ cp.toInt < mn.toInt := by
  obtain ⟨h1, h2, h3⟩ := hc
  obtain ⟨m1, m2, m3⟩ := hm
  have c1 := c_isub mn cp
  have c2 := rng32 (mn - cp)
  rw [Int32.lt_iff_toInt_lt]; have e : (0 : Int32).toInt = 0 := rfl
  constructor <;> intro q <;> omega
theorem own_nl {us : List Value} {mn cp : Int32} {r1 : Int32} (hm : own_mn mn cp) (hc : own_cap us cp) (hq : (0 : Int32) < (mn - cp)) (e : r1 = (cp + (if (mn - cp) < (cp + (2 : Int32)) then (cp + (2 : Int32)) else (mn - cp)))) : mn.toInt ≤ r1.toInt ∧ r1.toInt = 2 * cp.toInt + 2 := by
  have hlt := (own_gt hm hc).mp hq
  obtain ⟨h1, h2, h3⟩ := hc
  obtain ⟨m1, m2, m3⟩ := hm
  have c1 := c_isub mn cp
  have c2 := rng32 (mn - cp)
  have c3 := c_iadd cp 2
  have c4 := rng32 (cp + 2)
  have e2 : (2 : Int32).toInt = 2 := rfl
  by_cases q : (mn - cp) < (cp + (2 : Int32))
  · rw [if_pos q] at e
    have c5 := c_iadd cp (cp + 2)
    have c6 := rng32 (cp + (cp + 2))
    rw [Int32.lt_iff_toInt_lt] at q
    rw [e]; omega
  · rw [if_neg q] at e
    have c5 := c_iadd cp (mn - cp)
    have c6 := rng32 (cp + (mn - cp))
    rw [Int32.lt_iff_toInt_lt] at q
    rw [e]; omega
theorem own_pos {us : List Value} {mn cp r1 : Int32} (hm : own_mn mn cp) (hc : own_cap us cp) (hq : (0 : Int32) < (mn - cp)) (q : mn.toInt ≤ r1.toInt ∧ r1.toInt = 2 * cp.toInt + 2) : (0 : Int32) < r1 ∧ ¬ ((2147483639 : Int32) < r1) ∧ ¬ (r1 = (2147483647 : Int32)) ∧ ¬ (r1 = cp) ∧ ¬ (r1 < cp) ∧ ¬ (r1 < 0) ∧ own_cap us r1 ∧ r1.toNatClampNeg ≤ 142 ∧ cp.toNatClampNeg ≤ r1.toNatClampNeg := by
  have hlt := (own_gt hm hc).mp hq
  obtain ⟨h1, h2, h3⟩ := hc
  obtain ⟨m1, m2, m3⟩ := hm
  have e0 : (0 : Int32).toInt = 0 := rfl
  have e1 : (2147483639 : Int32).toInt = 2147483639 := rfl
  have e2 : (2147483647 : Int32).toInt = 2147483647 := rfl
  refine ⟨?_, ?_, ?_, ?_, ?_, ?_, ⟨?_, ?_, ?_⟩, ?_, ?_⟩
  · rw [Int32.lt_iff_toInt_lt]; omega
  · rw [Int32.lt_iff_toInt_lt]; omega
  · intro h; rw [h] at q; omega
  · intro h; rw [h] at q; omega
  · rw [Int32.lt_iff_toInt_lt]; omega
  · rw [Int32.lt_iff_toInt_lt]; omega
  · omega
  · omega
  · omega
  · simp only [Int32.toNatClampNeg]; omega
  · simp only [Int32.toNatClampNeg]; omega
theorem own_room {us vs : List Value} {n m cp : Int32} (h : own_fit us n) (k : own_fit vs m) (b : us.length + vs.length ≤ 125) (q : (n + m).toInt ≤ cp.toInt) : us.length + vs.length ≤ cp.toNatClampNeg := by
  have f := own_fit.add h k (by omega)
  unfold own_fit at f; rw [List.length_append] at f
  simp only [Int32.toNatClampNeg]; omega
theorem own_cap.app {us vs : List Value} {cp : Int32} (h : own_cap us cp) (q : us.length + vs.length ≤ cp.toNatClampNeg) : own_cap (us ++ vs) cp := by
  obtain ⟨h1, h2, h3⟩ := h
  simp only [Int32.toNatClampNeg] at q
  exact ⟨by rw [List.length_append]; omega, h2, h3⟩
theorem own_kp {b2 sb vb n : Nat} (h : b2 = vb ∨ n ≤ b2) : b2 ∈ [sb, vb] ∨ n ≤ b2 := by
  rcases h with h | h
  · exact Or.inl (by simp [h])
  · exact Or.inr h
theorem own_byte {v : Value} (h : fits .byte v = true) : ∃ x, v = .int x := by
  cases v <;> first | exact ⟨_, rfl⟩ | (simp [fits] at h)
theorem own_arvI {Z : State} {h : Heap} {a : Addr} {k : ClassId} {z j : Int32} {vs : List Value} {d : Value} (A : Arv Z h a k .byte z vs d) (q : ¬ j < 0 ∧ j < z) : ∃ x, vs.getD j.toNatClampNeg d = .int x := by
  obtain ⟨c, A1, -, S, hz, -, G⟩ := A
  refine own_byte (G _ ?_)
  rw [S]
  have e0 : (0 : Int32).toInt = 0 := rfl
  obtain ⟨q1, q2⟩ := q
  rw [Int32.lt_iff_toInt_lt] at q1 q2
  simp only [Int32.toNatClampNeg]; omega
/-- two lists that agree up to a place -/
def own_eqi (va wb : List Value) (ii : Int32) : Prop := 0 ≤ ii.toInt ∧ ii.toInt ≤ va.length ∧ ∀ k : Nat, (k : Int) < ii.toInt → va.getD k (.int (0 : Int32)) = wb.getD k (.int (0 : Int32))
theorem own_eqi0 (va wb : List Value) : own_eqi va wb (0 : Int32) := ⟨by decide, by show (0 : Int) ≤ _; omega, fun k hk => absurd hk (by show ¬ ((k : Int) < 0); omega)⟩
theorem own_eqin {va wb : List Value} {na ii : Int32} (f : own_fit va na) (H : own_eqi va wb ii) (h : ii < na) : ¬ ii < (0 : Int32) ∧ ii < na := by
  refine ⟨?_, h⟩
  rw [Int32.lt_iff_toInt_lt]; have e0 : (0 : Int32).toInt = 0 := rfl
  have := H.1; omega
theorem own_eqiS {va wb : List Value} {na ii x y : Int32} (f : own_fit va na) (H : own_eqi va wb ii) (h : ii < na) (ex : va.getD ii.toNatClampNeg (.int (0 : Int32)) = .int x) (ey : wb.getD ii.toNatClampNeg (.int (0 : Int32)) = .int y) (q : x = y) : own_eqi va wb (ii + (1 : Int32)) := by
  obtain ⟨h1, h2, h3⟩ := H
  unfold own_fit at f
  rw [Int32.lt_iff_toInt_lt] at h
  have c1 := c_iadd ii 1
  have c2 := rng32 (ii + 1)
  have c3 := rng32 na
  have e1 : (1 : Int32).toInt = 1 := rfl
  have e2 : (ii + 1).toInt = ii.toInt + 1 := by omega
  refine ⟨by omega, by omega, fun k hk => ?_⟩
  by_cases hk2 : (k : Int) < ii.toInt
  · exact h3 k hk2
  · have ek : k = ii.toNatClampNeg := by simp only [Int32.toNatClampNeg]; omega
    rw [ek, ex, ey, q]
theorem own_eqm {va : List Value} {na ii : Int32} (f : own_fit va na) (h1 : 0 ≤ ii.toInt) (h : ii < na) : va.length - (ii + (1 : Int32)).toInt.toNat < va.length - ii.toInt.toNat := by
  unfold own_fit at f
  rw [Int32.lt_iff_toInt_lt] at h
  have c1 := c_iadd ii 1
  have c2 := rng32 (ii + 1)
  have c3 := rng32 na
  have e1 : (1 : Int32).toInt = 1 := rfl
  omega
theorem own_eqY {va wb : List Value} {na nb ii : Int32} (f : own_fit va na) (g : own_fit wb nb) (e : na = nb) (H : own_eqi va wb ii) (h : ¬ ii < na) : va = wb := by
  obtain ⟨h1, h2, h3⟩ := H
  unfold own_fit at f g
  rw [Int32.lt_iff_toInt_lt] at h
  rw [e] at f h
  apply List.ext_getElem (by omega)
  intro i i1 i2
  have := h3 i (by omega)
  simpa [i1, i2] using this
theorem own_eqN {va wb : List Value} {na nb : Int32} (f : own_fit va na) (g : own_fit wb nb) (e : ¬ na = nb) : ¬ va = wb := fun q => e (by
  unfold own_fit at f g; rw [q] at f; exact Int32.toInt_inj.mp (by omega))
theorem own_eqX {va wb : List Value} {ii x y : Int32} (ex : va.getD ii.toNatClampNeg (.int (0 : Int32)) = .int x) (ey : wb.getD ii.toNatClampNeg (.int (0 : Int32)) = .int y) (q : ¬ x = y) : ¬ va = wb := fun z => q (by
  rw [z, ey] at ex; exact (Value.int.inj ex).symm)
theorem own_c250 {us : List Value} {cn cp : Int32} (f : own_fit us cn) (h : own_cap us cp) : cn.toNatClampNeg ≤ 142 := by
  rw [own_fit.cl f]; obtain ⟨h1, h2, h3⟩ := h; omega
theorem own_c250c {us : List Value} {cp : Int32} (h : own_cap us cp) : cp.toNatClampNeg ≤ 142 := by
  obtain ⟨h1, h2, h3⟩ := h; simp only [Int32.toNatClampNeg]; omega
theorem own_clt {us : List Value} {cn cp : Int32} (f : own_fit us cn) (h : own_cap us cp) (q : ¬ cn = cp) : cn < cp := by
  unfold own_fit at f; obtain ⟨h1, h2, h3⟩ := h
  rw [Int32.lt_iff_toInt_lt]
  have : cn.toInt ≠ cp.toInt := fun z => q (Int32.toInt_inj.mp z)
  omega
section OwnSb
variable {p : Program} {l : Launch} {e : Env} {R : Room} {s Z : State} {m : MethodId} {args : Array Value} {below : List Frame} {meth : Method} {c : Code} {T : State} {locs : List Loc} {cells slots : Nat} {h : Heap}
/-- arraycopy of a byte[]'s list behind another's -/
theorem own_cp (X : Stand p l e R s m args below meth c T locs cells slots) (hx : p.tables.exec = Jvm.exec) (hZ : Z.Warmed39 s.vm) {a0 : Array Value} {own : String} {index : Nat} (hown : s.vm.findClass own = some m.cls)
    (w1 : (Cond.methodLink own index Jvm.Stand.acN).before a0 Z = true) (w2 : (Cond.native Jvm.Stand.acN).before a0 Z = true) (w3 : (Cond.static Jvm.Stand.acN).before a0 Z = true) (w4 : (Cond.initialized "java/lang/System").before a0 Z = true) (eT : T.heap = h)
    {a b : Addr} {k k' : ClassId} {z z' dp nn : Int32} {vs ud : List Value} (A : Arv Z h a k .byte z vs (.int 0)) (B : Arv Z h b k' .byte z' ud (.int 0)) (f1 : own_fit vs nn) (f2 : own_fit ud dp) (q1 : vs.length ≤ z.toNatClampNeg) (q2 : ud.length + vs.length ≤ z'.toNatClampNeg)
    {n0 : Nat} (N : Fr n0 locs) (ge : n0 ≤ b) {g : JFrame} (hg : g.method = m) (hsize : g.locals.size = c.maxLocals) {rest : List Value} (hs : g.stack = .int nn :: .int dp :: .ref b :: .int 0 :: .ref a :: rest) (hd : decode c.code g.pc = .ok (.invokestatic index, 3))
    (hf : 1 ≤ R.frames) {W : Nat} (hW : 2 * g.monitorRoom + (rest.map fun v => v.category).sum ≤ W) (hlo : W + (nativeFrameWords "java/lang/System" "arraycopy" 5 + 11) ≤ R.locals) :
    ∃ T' h' L, Stand p l e R s m args below meth c T' L cells slots ∧ T'.heap = h' ∧ Fr n0 L ∧ Keep h h' [b] ∧ Arv Z h' b k' .byte z' (ud ++ vs) (.int 0) ∧
      ∀ target, Steps p.tables e below (T'.setTop { g with pc := g.pc + 3, stack := rest }) target → Steps p.tables e below (T.setTop g) target := by
  have e0 : (0 : Int32).toNatClampNeg = 0 := rfl
  have hus : vs = (List.range nn.toNatClampNeg).map fun i => vs.getD ((0 : Int32).toNatClampNeg + i) (.int 0) := by
    rw [f1.cl, e0]
    apply List.ext_getElem (by simp)
    intro i h1 h2
    simp [h1]
  obtain ⟨T', h', L, X', e', N', K, B', st⟩ := cpA X hx hZ hown w1 w2 w3 w4 eT A (B.pad (pad_rep ud (.int 0) vs.length)) (Or.inl ⟨rfl, rfl⟩) (sp := 0) (by decide) f2.nn f1.nn (by rw [f1.cl, e0]; omega) (by rw [f1.cl, f2.cl]; exact q2) hus (by rw [f1.cl, f2.cl]; simp) N ge hg hsize hs hd hf hW hlo
  refine ⟨T', h', L, X', e', N', K, ?_, st⟩
  have e1 : (ud ++ List.replicate vs.length (Value.int 0)).take dp.toNatClampNeg ++ vs ++ (ud ++ List.replicate vs.length (Value.int 0)).drop (dp.toNatClampNeg + nn.toNatClampNeg) = ud ++ vs := by
    rw [f1.cl, f2.cl]; simp
  rw [e1] at B'; exact B'
/-- arraycopy of a byte[]'s first nn, her list among them, into a new one -/
theorem own_cp0 (X : Stand p l e R s m args below meth c T locs cells slots) (hx : p.tables.exec = Jvm.exec) (hZ : Z.Warmed39 s.vm) {a0 : Array Value} {own : String} {index : Nat} (hown : s.vm.findClass own = some m.cls)
    (w1 : (Cond.methodLink own index Jvm.Stand.acN).before a0 Z = true) (w2 : (Cond.native Jvm.Stand.acN).before a0 Z = true) (w3 : (Cond.static Jvm.Stand.acN).before a0 Z = true) (w4 : (Cond.initialized "java/lang/System").before a0 Z = true) (eT : T.heap = h)
    {a b : Addr} {k k' : ClassId} {z z' nn : Int32} {vs : List Value} (A : Arv Z h a k .byte z vs (.int 0)) (B : Arv Z h b k' .byte z' [] (.int 0)) (q0 : vs.length ≤ nn.toNatClampNeg) (h3 : ¬ nn < 0) (q1 : nn.toNatClampNeg ≤ z.toNatClampNeg) (q2 : nn.toNatClampNeg ≤ z'.toNatClampNeg)
    {n0 : Nat} (N : Fr n0 locs) (ge : n0 ≤ b) {g : JFrame} (hg : g.method = m) (hsize : g.locals.size = c.maxLocals) {rest : List Value} (hs : g.stack = .int nn :: .int 0 :: .ref b :: .int 0 :: .ref a :: rest) (hd : decode c.code g.pc = .ok (.invokestatic index, 3))
    (hf : 1 ≤ R.frames) {W : Nat} (hW : 2 * g.monitorRoom + (rest.map fun v => v.category).sum ≤ W) (hlo : W + (nativeFrameWords "java/lang/System" "arraycopy" 5 + 11) ≤ R.locals) :
    ∃ T' h' L, Stand p l e R s m args below meth c T' L cells slots ∧ T'.heap = h' ∧ Fr n0 L ∧ Keep h h' [b] ∧ Arv Z h' b k' .byte z' vs (.int 0) ∧
      ∀ target, Steps p.tables e below (T'.setTop { g with pc := g.pc + 3, stack := rest }) target → Steps p.tables e below (T.setTop g) target := by
  have fl : (vs ++ List.replicate (nn.toNatClampNeg - vs.length) (Value.int 0)).length = nn.toNatClampNeg := by simp; omega
  have f1 : own_fit (vs ++ List.replicate (nn.toNatClampNeg - vs.length) (Value.int 0)) nn := by
    unfold own_fit; rw [fl]
    rw [Int32.lt_iff_toInt_lt] at h3; have e0 : (0 : Int32).toInt = 0 := rfl
    simp only [Int32.toNatClampNeg]; omega
  obtain ⟨T', h', L, X', e', N', K, B', st⟩ := own_cp X hx hZ hown w1 w2 w3 w4 eT (A.pad (pad_rep vs (.int 0) (nn.toNatClampNeg - vs.length))) B f1 (rfl : own_fit [] (0 : Int32)) (by rw [fl]; exact q1) (by rw [fl]; exact Nat.le_trans (Nat.le_of_eq (Nat.zero_add _)) q2) N ge hg hsize hs hd hf hW hlo
  exact ⟨T', h', L, X', e', N', K, B'.pad (fun i => (pad_rep vs (.int 0) (nn.toNatClampNeg - vs.length) i).symm), st⟩
end OwnSb
end Jvm.RoadKit
namespace Jvm.RoadKit
open Sem ClassFile Op Lib Jvm.Stand Jvm.Free Jvm.LawKit
/-- a digit's byte -/
def own_dig (n : Nat) : Value := .int ((Int32.ofNat (48 + n)).toInt8.toInt32)
/-- the decimal digits -/
def own_dg (n : Nat) : List Value := if n < 10 then [own_dig n] else own_dg (n / 10) ++ [own_dig (n % 10)]
termination_by n
decreasing_by omega
theorem own_dg1 {n : Nat} (h : n < 10) : own_dg n = [own_dig n] := by rw [own_dg, if_pos h]
theorem own_dgS {n : Nat} (h : 10 ≤ n) : own_dg n = own_dg (n / 10) ++ [own_dig (n % 10)] := by rw [own_dg, if_neg (by omega)]
theorem own_dgb {n : Nat} (h1 : 10 ≤ n) (h2 : n < 100) : own_dg n = [own_dig (n / 10), own_dig (n % 10)] := by
  rw [own_dgS h1, own_dg1 (n := n / 10) (by omega)]; rfl
theorem own_dg2 {n : Nat} (h : 100 ≤ n) : own_dg n = own_dg (n / 100) ++ [own_dig (n % 100 / 10), own_dig (n % 100 % 10)] := by
  rw [own_dgS (n := n) (by omega), own_dgS (n := n / 10) (by omega)]
  have e1 : n / 10 / 10 = n / 100 := by omega
  have e2 : n / 10 % 10 = n % 100 / 10 := by omega
  have e3 : n % 10 = n % 100 % 10 := by omega
  rw [e1, e2, e3, List.append_assoc]; rfl
theorem own_dg_pos (n : Nat) : 1 ≤ (own_dg n).length := by
  by_cases h : n < 10
  · rw [own_dg1 h]; exact Nat.le_refl _
  · rw [own_dgS (by omega), List.length_append]; exact Nat.le_add_left _ _
theorem own_dg_len : ∀ (i n : Nat), n < 10 ^ (i + 1) → (i = 0 ∨ 10 ^ i ≤ n) → (own_dg n).length = i + 1
  | 0, n, h, _ => by rw [own_dg1 (by simpa using h)]; rfl
  | i + 1, n, h, q => by
    have q : 10 ^ (i + 1) ≤ n := q.resolve_left (by omega)
    have p1 : 10 ^ (i + 1) = 10 ^ i * 10 := Nat.pow_succ ..
    have p2 : 10 ^ (i + 1 + 1) = 10 ^ (i + 1) * 10 := Nat.pow_succ ..
    have p3 : 0 < 10 ^ i := Nat.pow_pos (by decide)
    rw [own_dgS (by omega), List.length_append, own_dg_len i (n / 10) (by omega) (Or.inr (by omega))]; rfl
theorem own_dg_le {n : Nat} (h : n ≤ 9223372036854775808) : (own_dg n).length ≤ 19 := by
  have key : ∀ (k m : Nat), m < 10 ^ (k + 1) → (own_dg m).length ≤ k + 1 := fun k => by
    induction k with
    | zero => intro m hm; rw [own_dg1 (by simpa using hm)]; exact Nat.le_refl _
    | succ k ih =>
      intro m hm
      by_cases h10 : m < 10
      · rw [own_dg1 h10]; exact Nat.le_add_left 1 (k + 1)
      · have p2 : 10 ^ (k + 1 + 1) = 10 ^ (k + 1) * 10 := Nat.pow_succ ..
        rw [own_dgS (by omega), List.length_append]
        have := ih (m / 10) (by omega)
        simp only [List.length_cons, List.length_nil]; omega
  exact key 18 n (Nat.lt_of_le_of_lt h (by decide))
def own_sg (ng : Int32) : List Value := if ng = 0 then [] else [.int ((45 : Int32).toInt8.toInt32)]
/-- a long's decimal text -/
def own_dec (x : Int64) : List Value := own_sg (if x < (0 : Int64) then 1 else 0) ++ own_dg x.toInt.natAbs
theorem own_nab (x : Int64) : x.toInt.natAbs ≤ 9223372036854775808 := by have := rng64 x; omega
theorem own_sg_le (ng : Int32) : (own_sg ng).length ≤ 1 := by unfold own_sg; split <;> exact Nat.le_of_ble_eq_true rfl
theorem own_dec_le (x : Int64) : (own_dec x).length ≤ 20 := by
  unfold own_dec; rw [List.length_append]
  have := own_sg_le (if x < (0 : Int64) then 1 else 0)
  have := own_dg_le (own_nab x); omega
theorem own_dig_inj {a b : Nat} (ha : a < 10) (hb : b < 10) (h : own_dig a = own_dig b) : a = b := by
  have t : ∀ i j : Fin 10, (Int32.ofNat (48 + i.val)).toInt8.toInt32 = (Int32.ofNat (48 + j.val)).toInt8.toInt32 → i.val = j.val := by decide +kernel
  exact t ⟨a, ha⟩ ⟨b, hb⟩ (Value.int.inj h)
theorem own_dig_ne {a : Nat} (ha : a < 10) : own_dig a ≠ .int 44 ∧ own_dig a ≠ .int 93 ∧ own_dig a ≠ .int ((45 : Int32).toInt8.toInt32) := by
  have t : ∀ i : Fin 10, (Int32.ofNat (48 + i.val)).toInt8.toInt32 ≠ 44 ∧ (Int32.ofNat (48 + i.val)).toInt8.toInt32 ≠ 93 ∧ (Int32.ofNat (48 + i.val)).toInt8.toInt32 ≠ (45 : Int32).toInt8.toInt32 := by decide +kernel
  obtain ⟨t1, t2, t3⟩ := t ⟨a, ha⟩
  exact ⟨fun q => t1 (Value.int.inj q), fun q => t2 (Value.int.inj q), fun q => t3 (Value.int.inj q)⟩
theorem own_dg_mem (n : Nat) : ∀ v ∈ own_dg n, ∃ a, a < 10 ∧ v = own_dig a := by
  induction n using Nat.strongRecOn with
  | _ n ih =>
    intro v hv
    by_cases h : n < 10
    · rw [own_dg1 h] at hv; exact ⟨n, h, List.mem_singleton.mp hv⟩
    · rw [own_dgS (by omega)] at hv
      rcases List.mem_append.mp hv with q | q
      · exact ih (n / 10) (by omega) v q
      · exact ⟨n % 10, by omega, List.mem_singleton.mp q⟩
theorem own_dg_len1 {n : Nat} (h : 10 ≤ n) : (own_dg n).length = (own_dg (n / 10)).length + 1 := by rw [own_dgS h, List.length_append]; rfl
theorem own_dg_a {n m : Nat} (hn : n < 10) (hm : m < 10) (h : own_dg n = own_dg m) : n = m := by
  rw [own_dg1 hn, own_dg1 hm] at h
  injection h with h1 h2
  exact own_dig_inj hn hm h1
theorem own_dg_b {n m : Nat} (hn : n < 10) (hm : ¬ m < 10) (h : own_dg n = own_dg m) : False := by
  have e : (own_dg n).length = (own_dg m).length := by rw [h]
  have e1 : (own_dg n).length = 1 := by rw [own_dg1 hn]; rfl
  have e2 := own_dg_len1 (n := m) (by omega)
  have e3 := own_dg_pos (m / 10)
  omega
theorem own_dg_c {n m : Nat} (hn : ¬ n < 10) (hm : ¬ m < 10) (h : own_dg n = own_dg m) : own_dg (n / 10) = own_dg (m / 10) ∧ n % 10 = m % 10 := by
  rw [own_dgS (n := n) (by omega), own_dgS (n := m) (by omega)] at h
  have h1 := List.append_inj' h (by simp)
  refine ⟨h1.1, own_dig_inj (Nat.mod_lt _ (by decide)) (Nat.mod_lt _ (by decide)) ?_⟩
  injection h1.2
theorem own_dg_inj : ∀ (n m : Nat), own_dg n = own_dg m → n = m := fun n => by
  induction n using Nat.strongRecOn with
  | _ n ih =>
    intro m h
    by_cases hn : n < 10
    · by_cases hm : m < 10
      · exact own_dg_a hn hm h
      · exact (own_dg_b hn hm h).elim
    · by_cases hm : m < 10
      · exact (own_dg_b hm hn h.symm).elim
      · have e := own_dg_c hn hm h
        have e1 := ih (n / 10) (by omega) (m / 10) e.1
        omega
theorem own_dec_mem {x : Int64} {v : Value} (hv : v ∈ own_dec x) : v ≠ .int 44 ∧ v ≠ .int 93 := by
  unfold own_dec at hv
  rcases List.mem_append.mp hv with q | q
  · by_cases h : (if x < (0 : Int64) then (1 : Int32) else 0) = 0
    · rw [own_sg, if_pos h] at q; cases q
    · rw [own_sg, if_neg h] at q
      cases List.mem_singleton.mp q
      exact ⟨fun e => absurd (Value.int.inj e) (by decide), fun e => absurd (Value.int.inj e) (by decide)⟩
  · obtain ⟨a, ha, rfl⟩ := own_dg_mem _ v q
    exact ⟨(own_dig_ne ha).1, (own_dig_ne ha).2.1⟩
theorem own_dec_inj {x y : Int64} (h : own_dec x = own_dec y) : x = y := by
  have hd : ∀ n, own_dg n ≠ [] := fun n e => by have := own_dg_pos n; rw [e] at this; exact absurd this (by decide)
  have hh : ∀ n r, own_dg n ≠ .int ((45 : Int32).toInt8.toInt32) :: r := fun n r e => by
    obtain ⟨a, ha, q⟩ := own_dg_mem n (.int ((45 : Int32).toInt8.toInt32)) (by rw [e]; exact List.mem_cons_self)
    exact (own_dig_ne ha).2.2 q.symm
  have e0 : (0 : Int64).toInt = 0 := rfl
  unfold own_dec at h
  by_cases hx : x < (0 : Int64) <;> by_cases hy : y < (0 : Int64) <;> simp only [hx, hy, if_true, if_false, own_sg] at h
  · have h1 := own_dg_inj _ _ (List.cons.inj (show (Value.int ((45 : Int32).toInt8.toInt32)) :: own_dg x.toInt.natAbs = (Value.int ((45 : Int32).toInt8.toInt32)) :: own_dg y.toInt.natAbs by simpa using h)).2
    rw [Int64.lt_iff_toInt_lt] at hx hy
    exact Int64.toInt_inj.mp (by omega)
  · exact absurd (show own_dg y.toInt.natAbs = (Value.int ((45 : Int32).toInt8.toInt32)) :: own_dg x.toInt.natAbs by simpa using h.symm) (hh _ _)
  · exact absurd (show own_dg x.toInt.natAbs = (Value.int ((45 : Int32).toInt8.toInt32)) :: own_dg y.toInt.natAbs by simpa using h) (hh _ _)
  · have h1 := own_dg_inj _ _ (show own_dg x.toInt.natAbs = own_dg y.toInt.natAbs by simpa using h)
    rw [Int64.lt_iff_toInt_lt] at hx hy
    exact Int64.toInt_inj.mp (by omega)
theorem own_split {k : Value} : ∀ (a b r r' : List Value), (∀ v ∈ a, v ≠ k) → (∀ v ∈ b, v ≠ k) → a ++ k :: r = b ++ k :: r' → a = b ∧ r = r'
  | [], [], r, r', _, _, h => ⟨rfl, (List.cons.inj h).2⟩
  | [], y :: b, r, r', _, hb, h => absurd (List.cons.inj h).1.symm (hb y List.mem_cons_self)
  | x :: a, [], r, r', ha, _, h => absurd (List.cons.inj h).1 (ha x List.mem_cons_self)
  | x :: a, y :: b, r, r', ha, hb, h => by
    obtain ⟨e1, e2⟩ := List.cons.inj h
    obtain ⟨e3, e4⟩ := own_split a b r r' (fun v hv => ha v (List.mem_cons_of_mem _ hv)) (fun v hv => hb v (List.mem_cons_of_mem _ hv)) e2
    exact ⟨by rw [e1, e3], e4⟩
/-- one more byte in front of what is written -/
theorem own_set {us acc : List Value} {z v : Value} {kk j : Nat} (h : 0 < kk) (hj : j = us.length + (kk - 1)) : (us ++ (List.replicate kk z ++ acc)).set j v = us ++ (List.replicate (kk - 1) z ++ (v :: acc)) := by
  obtain ⟨k, rfl⟩ : ∃ k, kk = k + 1 := ⟨kk - 1, by omega⟩
  subst hj
  rw [List.set_append_right _ _ (by omega)]
  congr 1
  have e : us.length + (k + 1 - 1) - us.length = k := by omega
  rw [e, List.replicate_succ', List.append_assoc, List.set_append_right _ _ (by simp)]
  simp
/-- Long.stringSize at its loop's head -/
def own_ssi (xl xx : Int64) (dd ii : Int32) (pp : Int64) : Prop :=
  xx.toInt = -(xl.toInt.natAbs : Int) ∧ dd.toInt = (own_sg (if xl < (0 : Int64) then 1 else 0)).length ∧ 1 ≤ ii.toInt ∧ ii.toInt ≤ 19 ∧ (ii.toInt ≤ 18 → pp.toInt = -((10 ^ ii.toInt.toNat : Nat) : Int)) ∧ (ii.toInt = 1 ∨ 10 ^ (ii.toInt.toNat - 1) ≤ xl.toInt.natAbs)
theorem own_ss0 {xl : Int64} (h : xl < (0 : Int64)) : own_ssi xl xl (1 : Int32) (1 : Int32) (-10 : Int64) := by
  rw [own_ssi, if_pos h]
  have e0 : (0 : Int64).toInt = 0 := rfl
  rw [Int64.lt_iff_toInt_lt] at h
  exact ⟨by omega, rfl, by decide, by decide, fun _ => by decide, Or.inl rfl⟩
theorem own_ss1 {xl : Int64} (h : ¬ xl < (0 : Int64)) : own_ssi xl (-xl) (0 : Int32) (1 : Int32) (-10 : Int64) := by
  rw [own_ssi, if_neg h]
  have e0 : (0 : Int64).toInt = 0 := rfl
  rw [Int64.lt_iff_toInt_lt] at h
  have c1 := c_lneg xl
  have c2 := rng64 (-xl)
  have c3 := rng64 xl
  exact ⟨by omega, rfl, by decide, by decide, fun _ => by decide, Or.inl rfl⟩
theorem own_ssl {xl : Int64} : (own_dec xl).length = (own_sg (if xl < (0 : Int64) then 1 else 0)).length + (own_dg xl.toInt.natAbs).length := by unfold own_dec; rw [List.length_append]
theorem own_ssR {xl xx pp : Int64} {dd ii : Int32} (H : own_ssi xl xx dd ii pp) (h : ii < (19 : Int32)) (q : pp < xx) : (ii + dd).toInt = (own_dec xl).length := by
  obtain ⟨h1, h2, h3, h4, h5, h6⟩ := H
  have e19 : (19 : Int32).toInt = 19 := rfl
  rw [Int32.lt_iff_toInt_lt] at h
  rw [Int64.lt_iff_toInt_lt] at q
  have h5 := h5 (by omega)
  have hs := own_sg_le (if xl < (0 : Int64) then 1 else 0)
  obtain ⟨k, hk⟩ : ∃ k : Nat, ii.toInt.toNat = k + 1 := ⟨ii.toInt.toNat - 1, by omega⟩
  have hl : (own_dg xl.toInt.natAbs).length = k + 1 := own_dg_len k _ (by rw [← hk]; omega) (by
    rcases h6 with h6 | h6
    · exact Or.inl (by omega)
    · rw [hk] at h6; exact Or.inr h6)
  rw [own_ssl, hl]
  have c1 := c_iadd ii dd
  have c2 := rng32 (ii + dd)
  omega
theorem own_ssS {xl xx pp : Int64} {dd ii : Int32} (H : own_ssi xl xx dd ii pp) (h : ii < (19 : Int32)) (q : ¬ pp < xx) : own_ssi xl xx dd (ii + (1 : Int32)) ((10 : Int64) * pp) := by
  obtain ⟨h1, h2, h3, h4, h5, h6⟩ := H
  have e19 : (19 : Int32).toInt = 19 := rfl
  have e1 : (1 : Int32).toInt = 1 := rfl
  have e10 : (10 : Int64).toInt = 10 := rfl
  rw [Int32.lt_iff_toInt_lt] at h
  rw [Int64.lt_iff_toInt_lt] at q
  have h5 := h5 (by omega)
  have c1 := c_iadd ii 1
  have c2 := rng32 (ii + 1)
  have ei : (ii + 1).toInt = ii.toInt + 1 := by omega
  refine ⟨h1, h2, by omega, by omega, fun z => ?_, Or.inr ?_⟩
  · have c3 := c_lmul 10 pp
    have c4 := rng64 (10 * pp)
    have en : (ii + 1).toInt.toNat = ii.toInt.toNat + 1 := by omega
    have p2 : 10 ^ (ii.toInt.toNat + 1) = 10 ^ ii.toInt.toNat * 10 := Nat.pow_succ ..
    have p3 : 10 ^ ii.toInt.toNat ≤ 10 ^ 17 := Nat.pow_le_pow_right (by decide) (by omega)
    have p4 : (10 : Nat) ^ 17 = 100000000000000000 := by decide
    rw [en, p2]
    rw [e10] at c3
    omega
  · have en : (ii + 1).toInt.toNat - 1 = ii.toInt.toNat := by omega
    rw [en]; omega
theorem own_ssE {xl xx pp : Int64} {dd ii : Int32} (H : own_ssi xl xx dd ii pp) (h : ¬ ii < (19 : Int32)) : ((19 : Int32) + dd).toInt = (own_dec xl).length := by
  obtain ⟨h1, h2, h3, h4, h5, h6⟩ := H
  have e19 : (19 : Int32).toInt = 19 := rfl
  rw [Int32.lt_iff_toInt_lt] at h
  have hs := own_sg_le (if xl < (0 : Int64) then 1 else 0)
  have en : ii.toInt.toNat - 1 = 18 := by omega
  rw [en] at h6
  have p3 : (10 : Nat) ^ (18 + 1) = 10000000000000000000 := by decide
  have hn := own_nab xl
  have hl : (own_dg xl.toInt.natAbs).length = 18 + 1 := own_dg_len 18 _ (by rw [p3]; omega) (Or.inr (h6.resolve_left (by omega)))
  rw [own_ssl, hl]
  have c1 := c_iadd 19 dd
  have c2 := rng32 (19 + dd)
  omega
/-- the measure of Long.stringSize's loop -/
theorem own_ssm {ii : Int32} (h : ii < (19 : Int32)) (h1 : 1 ≤ ii.toInt) : 19 - (ii + (1 : Int32)).toInt.toNat < 19 - ii.toInt.toNat := by
  have e19 : (19 : Int32).toInt = 19 := rfl
  have e1 : (1 : Int32).toInt = 1 := rfl
  rw [Int32.lt_iff_toInt_lt] at h
  have c1 := c_iadd ii 1
  have c2 := rng32 (ii + 1)
  omega
theorem own_i1 {i2 : Int32} {N : Nat} (h : i2.toInt = -(N : Int)) (q : ¬ (-100 : Int32) < i2) : 100 ≤ N ∧ (i2 / (100 : Int32)).toInt = -((N / 100 : Nat) : Int) ∧ (((i2 / (100 : Int32)) * (100 : Int32)) - i2).toInt = ((N % 100 : Nat) : Int) := by
  have e : (-100 : Int32).toInt = -100 := rfl
  have e1 : (100 : Int32).toInt = 100 := rfl
  rw [Int32.lt_iff_toInt_lt] at q
  have d := (c_idiv i2 100 100 rfl (by decide)).2 (by omega)
  have d1 : (i2 / (100 : Int32)).toInt = -((N / 100 : Nat) : Int) := by omega
  have m1 := c_imul (i2 / 100) 100
  have m2 := rng32 ((i2 / 100) * 100)
  have r0 := rng32 i2
  have s1 := c_isub ((i2 / 100) * 100) i2
  have s2 := rng32 (((i2 / 100) * 100) - i2)
  rw [d1, e1] at m1
  exact ⟨by omega, d1, by omega⟩
theorem own_i2 {i2 : Int32} {N : Nat} (h : i2.toInt = -(N : Int)) (q : (-100 : Int32) < i2) : N < 100 ∧ (-i2).toInt = (N : Int) := by
  have e : (-100 : Int32).toInt = -100 := rfl
  rw [Int32.lt_iff_toInt_lt] at q
  have m1 := c_ineg i2
  have m2 := rng32 (-i2)
  omega
theorem own_i3 {i2 : Int32} {N : Nat} (h : i2.toInt = -(N : Int)) : i2 < (-9 : Int32) ↔ 10 ≤ N := by
  have e : (-9 : Int32).toInt = -9 := rfl
  rw [Int32.lt_iff_toInt_lt]; omega
theorem own_l1 {ii : Int64} {N : Nat} (h : ii.toInt = -(N : Int)) (q : ¬ (-2147483648 : Int64) < ii) : 100 ≤ N ∧ (ii / (100 : Int64)).toInt = -((N / 100 : Nat) : Int) ∧ ((((ii / (100 : Int64)) * (100 : Int64)) - ii).toInt32).toInt = ((N % 100 : Nat) : Int) := by
  have e : (-2147483648 : Int64).toInt = -2147483648 := rfl
  have e1 : (100 : Int64).toInt = 100 := rfl
  rw [Int64.lt_iff_toInt_lt] at q
  have d := (c_ldiv ii 100 100 rfl (by decide)).2 (by omega)
  have d1 : (ii / (100 : Int64)).toInt = -((N / 100 : Nat) : Int) := by omega
  have m1 := c_lmul (ii / 100) 100
  have m2 := rng64 ((ii / 100) * 100)
  have r0 := rng64 ii
  have s1 := c_lsub ((ii / 100) * 100) ii
  have s2 := rng64 (((ii / 100) * 100) - ii)
  have t1 := c_l2i (((ii / 100) * 100) - ii)
  have t2 := rng32 ((((ii / 100) * 100) - ii).toInt32)
  rw [d1, e1] at m1
  exact ⟨by omega, d1, by omega⟩
theorem own_l2 {ii : Int64} {N : Nat} (h : ii.toInt = -(N : Int)) (q : (-2147483648 : Int64) < ii) : (ii.toInt32).toInt = -(N : Int) := by
  have e : (-2147483648 : Int64).toInt = -2147483648 := rfl
  rw [Int64.lt_iff_toInt_lt] at q
  have t1 := c_l2i ii
  have t2 := rng32 ii.toInt32
  omega
def own_ones : List Value := (List.range 100).map (fun k => .int (Int32.ofNat (48 + k % 10)))
def own_tens : List Value := (List.range 100).map (fun k => .int (Int32.ofNat (48 + k / 10)))
theorem own_clm {r : Int32} {n : Nat} (h : r.toInt = (n : Int)) : r.toNatClampNeg = n := by simp only [Int32.toNatClampNeg]; omega
theorem own_ones_at {r : Int32} {n : Nat} (h : r.toInt = (n : Int)) (hn : n < 100) : own_ones.getD r.toNatClampNeg (.int (0 : Int32)) = (.int (Int32.ofNat (48 + n % 10))) := by
  rw [own_clm h]; unfold own_ones; simp [hn]
theorem own_tens_at {r : Int32} {n : Nat} (h : r.toInt = (n : Int)) (hn : n < 100) : own_tens.getD r.toNatClampNeg (.int (0 : Int32)) = (.int (Int32.ofNat (48 + n / 10))) := by
  rw [own_clm h]; unfold own_tens; simp [hn]
theorem own_in100 {r : Int32} {n : Nat} (h : r.toInt = (n : Int)) (hn : n < 100) : ¬ r < (0 : Int32) ∧ r < (100 : Int32) := by
  have e : (0 : Int32).toInt = 0 := rfl
  have e1 : (100 : Int32).toInt = 100 := rfl
  rw [Int32.lt_iff_toInt_lt, Int32.lt_iff_toInt_lt]; omega
/-- the place in front -/
def own_dnp (y cp : Int32) (n : Nat) : Prop := ¬ y < (0 : Int32) ∧ y < cp ∧ y.toNatClampNeg = n ∧ y.toInt = (n : Int)
theorem own_dn {cpos cp : Int32} {ul kk al : Nat} (h : cpos.toInt = ((ul + kk : Nat) : Int)) (hk : 0 < kk) (hc : ((ul + kk + al : Nat) : Int) ≤ cp.toInt) : own_dnp (cpos + (-1 : Int32)) cp (ul + (kk - 1)) := by
  have e : (0 : Int32).toInt = 0 := rfl
  have e1 : (-1 : Int32).toInt = -1 := by decide
  have c1 := c_iadd cpos (-1 : Int32)
  have c2 := rng32 (cpos + (-1 : Int32))
  have c3 := rng32 cpos
  rw [e1] at c1
  unfold own_dnp
  generalize cpos + (-1 : Int32) = y at c1 c2 ⊢
  clear e1
  have c4 : y.toInt = ((ul + (kk - 1) : Nat) : Int) := by omega
  refine ⟨?_, ?_, ?_, c4⟩
  · rw [Int32.lt_iff_toInt_lt, e]; omega
  · rw [Int32.lt_iff_toInt_lt]; omega
  · simp only [Int32.toNatClampNeg]; omega
end Jvm.RoadKit
namespace Jvm.Free.SBG
open Sem ClassFile Op Lib Jvm.Free.AList Jvm.Stand Jvm.Free.SB Jvm.Free.SubstrLeaves Jvm.LawKit Jvm.RoadKit
/-- a static byte[] of a hundred known bytes -/
theorem own_tbl {Z : State} {a : Array Value} {C n : String} {rhs : Term} {F : Nat → Nat} (he : (Cond.exactly (Term.static C n "[B") "[B").before a Z = true) (hl0 : (Cond.eq (Term.length (Term.static C n "[B")) (Term.int (100 : Int32))).before a Z = true)
    (hall : (Cond.all (Term.static C n "[B") (Cond.eq (Term.elem (Term.static C n "[B") (Term.index 0)) rhs)).before a Z = true) (harr : (Cond.arrayClass .byte).before a Z = true)
    (hrhs : ∀ r, r < 100 → rhs.eval a Z none [r] Z = some (.int (Int32.ofNat (F r)))) (hfit : ∀ r, r < 100 → fits .byte (.int (Int32.ofNat (F r))) = true) :
    ∃ (d : Nat) (k : ClassId), (Term.static C n "[B").eval a Z none [] Z = some (.ref d) ∧ Arv Z Z.heap d k .byte (100 : Int32) ((List.range 100).map fun r => Value.int (Int32.ofNat (F r))) (.int (0 : Int32)) := by
  obtain ⟨d, cB, D, kB, hev, hfcB, hcellD, hkB, hstatD, hclsD, -⟩ := Cond.exactly_spec he
  have hevAll : ∀ idx, (Term.static C n "[B").eval a Z none idx Z = some (.ref d) := fun idx => by
    have : (Term.static C n "[B").eval a Z none idx Z = (Term.static C n "[B").eval a Z none [] Z := by simp only [Term.eval]
    rw [this]; exact hev
  have hl := Cond.eq_int hl0 rfl
  obtain ⟨d', D', hev', harrAt, hlen⟩ := Term.length_spec hl
  cases hev.symm.trans hev'
  obtain ⟨hcellD', hknD, -, -⟩ := State.arrayAt?_spec harrAt
  cases hcellD.symm.trans hcellD'
  have h31 := length_lt hev harrAt hl
  have hsz : D.slots.size = 100 := by
    have q := congrArg Int32.toInt (Value.int.inj hlen)
    rw [len_toInt h31] at q
    have e : (100 : Int32).toInt = 100 := rfl
    omega
  obtain ⟨cB', kB', comp, hnameB, hkB', hkindB⟩ := Cond.arrayClass_spec harr
  have eBA : ("[" ++ FieldType.toString .byte) = "[B" := by decide
  rw [eBA] at hnameB
  cases hfcB.symm.trans hnameB
  cases hkB.symm.trans hkB'
  have key : ∀ r, r < 100 → D.slots[r]? = some (.int (Int32.ofNat (F r))) := fun r hr => by
    have h := Cond.all_elim (hevAll []) harrAt (val_of_holds hall) r (by omega)
    have eL : (Term.elem (Term.static C n "[B") (.index 0)).eval a Z none [r] Z = D.slots[r]? := elem_at (ix := .index 0) (hevAll [r]) harrAt (by omega) (by omega) rfl
    rw [← eL]; exact eqv_i (hrhs r hr) h
  have get : ∀ r, r < 100 → ((List.range 100).map fun r => Value.int (Int32.ofNat (F r))).getD r (.int (0 : Int32)) = .int (Int32.ofNat (F r)) := fun r hr => by simp [hr]
  refine ⟨d, D.cls, hev, D, ⟨hcellD, ⟨(fun q h => by rw [h] at hstatD; cases hstatD), kB, (by rw [hclsD]; exact hkB), comp, hkindB⟩, hknD⟩, rfl, by rw [hsz]; rfl, by decide, fun r hr => ?_, fun r hr => ?_⟩
  · rw [hsz] at hr; rw [get r hr]; exact key r hr
  · rw [hsz] at hr; rw [get r hr]; exact hfit r hr
theorem own_fit48 : ∀ r, r < 100 → fits .byte (.int (Int32.ofNat (48 + r % 10))) = true := by decide +kernel
theorem own_fit48t : ∀ r, r < 100 → fits .byte (.int (Int32.ofNat (48 + r / 10))) = true := by decide +kernel
end Jvm.Free.SBG
namespace Jvm.Pilot.@@N@@
open Jvm Jvm.ClassFile Sem Op Lib Jvm.Free Jvm.Stand Jvm.LawKit Jvm.RoadKit Bundle Jvm.Pilot.@@N@@.Jvm.D
theorem own_go {tb : Tables} {e : Env} {below : List Frame} {A B : State} {P : State → Outcome → Prop} (st : ∀ t, Steps tb e below B t → Steps tb e below A t) (k : ∃ t o, Steps tb e below B t ∧ P t o) : ∃ t o, Steps tb e below A t ∧ P t o := by
  obtain ⟨t, o, h1, h2⟩ := k
  exact ⟨t, o, st t h1, h2⟩
theorem own_goT {tb : Tables} {e : Env} {below : List Frame} {A B : State} {P : State → Outcome → Prop} (st : Steps tb e below A B) (k : ∃ t o, Steps tb e below B t ∧ P t o) : ∃ t o, Steps tb e below A t ∧ P t o := by
  obtain ⟨t, o, h1, h2⟩ := k
  exact ⟨t, o, st.trans h1, h2⟩
theorem own_nameP {tb : Tables} {e : Env} {below : List Frame} {A : State} {Q : State → Outcome → Prop} (k : ∀ P : State → Outcome → Prop, P = Q → ∃ t o, Steps tb e below A t ∧ P t o) : ∃ t o, Steps tb e below A t ∧ Q t o := k Q rfl
theorem own_nfo {args : Array Value} {s : State} {C : String} {x y z : MethodName} (hsel : (Jvm.Cond.selects C x z).before args s = true) (e : z.cls = y.cls) : NotFace s y := fun r0 h0 => by
  obtain ⟨c2, r2, m2, q1, q2, q3, q4, kP, hkP, hkPi⟩ := Cond.selects_spec hsel
  have a1 := findClass_of_methodNamed q3
  have a2 := findClass_of_methodNamed h0
  rw [e] at a1
  have e2 := Option.some.inj (a1.symm.trans a2)
  exact ⟨kP, by rw [← e2]; exact hkP, hkPi⟩
theorem own_ifc {α : Type} {P R : Prop} [Decidable P] [Decidable R] (a b : α) (h : P ↔ R) : (if P then a else b) = (if R then a else b) := by
  by_cases q : P
  · rw [if_pos q, if_pos (h.mp q)]
  · rw [if_neg q, if_neg fun r => q (h.mpr r)]
theorem own_ne {a b : Nat} (h : a < b ∨ b < a) : a ≠ b := by omega
theorem own_ltn {a n : Nat} (h : a < n) : a < n := h
theorem own_keep_le {h h' : Heap} {ws : List Addr} (K : Keep h h' ws) : h.size ≤ h'.size := K.1
theorem own_and255 (x : Int32) : ¬ nar .char ((x &&& (255 : Int32)).toUInt32.toUInt16.toUInt32.toInt32) < 0 ∧ ¬ (255 : Int32) < nar .char ((x &&& (255 : Int32)).toUInt32.toUInt16.toUInt32.toInt32) := by
  have t : ∀ k : Fin 256, ¬ nar .char ((Int32.ofNat k.val).toUInt32.toUInt16.toUInt32.toInt32) < 0 ∧ ¬ (255 : Int32) < nar .char ((Int32.ofNat k.val).toUInt32.toUInt16.toUInt32.toInt32) := by decide +kernel
  have h : (x &&& 255).toBitVec.toNat < 256 := by
    simp only [Int32.toBitVec_and, BitVec.toNat_and]
    exact Nat.lt_succ_of_le Nat.and_le_right
  have e : (x &&& 255) = Int32.ofNat (x &&& 255).toBitVec.toNat := by
    apply Int32.toBitVec_inj.mp
    show _ = BitVec.ofNat 32 _
    rw [BitVec.ofNat_toNat]; simp
  rw [e]
  exact t ⟨_, h⟩
theorem own_up (cs : List Int32) (h : ∀ c ∈ cs, ¬ c < 0 ∧ ¬ (255 : Int32) < c) : ∀ c ∈ cs, ¬ c < 0 ∧ ¬ (65535 : Int32) < c := fun c hc => ⟨(h c hc).1, fun q => (h c hc).2 (by rw [Int32.lt_iff_toInt_lt] at q ⊢; have e1 : (65535 : Int32).toInt = 65535 := rfl; have e2 : (255 : Int32).toInt = 255 := rfl; omega)⟩
theorem own_all0 : ∀ c ∈ ([] : List Int32), ¬ c < 0 ∧ ¬ (255 : Int32) < c := fun _ q => nomatch q
theorem own_allS {x : Int32} {cs : List Int32} (q : ¬ x < 0 ∧ ¬ (255 : Int32) < x) (r : ∀ c ∈ cs, ¬ c < 0 ∧ ¬ (255 : Int32) < c) : ∀ c ∈ x :: cs, ¬ c < 0 ∧ ¬ (255 : Int32) < c := fun c z => (List.mem_cons.mp z).elim (fun u => u ▸ q) (r c)

def own_EL : List (String × Nat) := [("com/example/libtardy/libtardy/QueueCounts", 37), ("com/example/libtardy/libtardy/QueueCounts", 46), ("com/example/libtardy/libtardy/QueueCounts", 48), ("com/example/libtardy/libtardy/QueueCounts", 50), ("com/example/libtardy/libtardy/QueueCounts", 52)]
theorem own_mem37 : (("com/example/libtardy/libtardy/QueueCounts", 37) : String × Nat) ∈ own_EL := List.mem_of_getElem? (i := 0) rfl
theorem own_mem46 : (("com/example/libtardy/libtardy/QueueCounts", 46) : String × Nat) ∈ own_EL := List.mem_of_getElem? (i := 1) rfl
theorem own_mem48 : (("com/example/libtardy/libtardy/QueueCounts", 48) : String × Nat) ∈ own_EL := List.mem_of_getElem? (i := 2) rfl
theorem own_mem50 : (("com/example/libtardy/libtardy/QueueCounts", 50) : String × Nat) ∈ own_EL := List.mem_of_getElem? (i := 3) rfl
theorem own_mem52 : (("com/example/libtardy/libtardy/QueueCounts", 52) : String × Nat) ∈ own_EL := List.mem_of_getElem? (i := 4) rfl
def own_p1 : List Value := [(.int (81 : Int32)), (.int (117 : Int32)), (.int (101 : Int32)), (.int (117 : Int32)), (.int (101 : Int32)), (.int (67 : Int32)), (.int (111 : Int32)), (.int (117 : Int32)), (.int (110 : Int32)), (.int (116 : Int32)), (.int (115 : Int32)), (.int (91 : Int32)), (.int (119 : Int32)), (.int (97 : Int32)), (.int (105 : Int32)), (.int (116 : Int32)), (.int (105 : Int32)), (.int (110 : Int32)), (.int (103 : Int32)), (.int (61 : Int32))]
theorem own_pl1 : own_p1.length = 20 := rfl
def own_p2 : List Value := [(.int (44 : Int32)), (.int (32 : Int32)), (.int (100 : Int32)), (.int (117 : Int32)), (.int (101 : Int32)), (.int (61 : Int32))]
theorem own_pl2 : own_p2.length = 6 := rfl
def own_p3 : List Value := [(.int (44 : Int32)), (.int (32 : Int32)), (.int (105 : Int32)), (.int (110 : Int32)), (.int (70 : Int32)), (.int (108 : Int32)), (.int (105 : Int32)), (.int (103 : Int32)), (.int (104 : Int32)), (.int (116 : Int32)), (.int (61 : Int32))]
theorem own_pl3 : own_p3.length = 11 := rfl
def own_p4 : List Value := [(.int (44 : Int32)), (.int (32 : Int32)), (.int (100 : Int32)), (.int (101 : Int32)), (.int (97 : Int32)), (.int (100 : Int32)), (.int (61 : Int32))]
theorem own_pl4 : own_p4.length = 7 := rfl
def own_p5 : List Value := [(.int (93 : Int32))]
theorem own_pl5 : own_p5.length = 1 := rfl
def own_qc (qw qd qf qx : Int64) : List Value := ((((((((([] ++ own_p1) ++ own_dec qw) ++ own_p2) ++ own_dec qd) ++ own_p3) ++ own_dec qf) ++ own_p4) ++ own_dec qx) ++ own_p5)
theorem own_qc_inj {a b d g a' b' d' g' : Int64} (h : own_qc a b d g = own_qc a' b' d' g') : a = a' ∧ b = b' ∧ d = d' ∧ g = g' := by
  unfold own_qc at h
  simp only [List.nil_append, List.append_assoc] at h
  have h1 := List.append_cancel_left h
  have n44 : ∀ x : Int64, ∀ v ∈ own_dec x, v ≠ Value.int (44 : Int32) := fun x v hv => (own_dec_mem hv).1
  have n93 : ∀ x : Int64, ∀ v ∈ own_dec x, v ≠ Value.int (93 : Int32) := fun x v hv => (own_dec_mem hv).2
  obtain ⟨e1, h2⟩ := own_split _ _ _ _ (n44 a) (n44 a') (show own_dec a ++ Value.int (44 : Int32) :: _ = own_dec a' ++ Value.int (44 : Int32) :: _ from h1)
  have h2 := List.append_cancel_left (as := own_p2.tail) h2
  obtain ⟨e2, h3⟩ := own_split _ _ _ _ (n44 b) (n44 b') (show own_dec b ++ Value.int (44 : Int32) :: _ = own_dec b' ++ Value.int (44 : Int32) :: _ from h2)
  have h3 := List.append_cancel_left (as := own_p3.tail) h3
  obtain ⟨e3, h4⟩ := own_split _ _ _ _ (n44 d) (n44 d') (show own_dec d ++ Value.int (44 : Int32) :: _ = own_dec d' ++ Value.int (44 : Int32) :: _ from h3)
  have h4 := List.append_cancel_left (as := own_p4.tail) h4
  obtain ⟨e4, -⟩ := own_split _ _ _ _ (n93 g) (n93 g') (show own_dec g ++ Value.int (93 : Int32) :: _ = own_dec g' ++ Value.int (93 : Int32) :: _ from h4)
  exact ⟨own_dec_inj e1, own_dec_inj e2, own_dec_inj e3, own_dec_inj e4⟩
theorem own_safe_or {Z : State} {EL : List (String × Nat)} {vm : Vm} {h : Heap} {x y : Nat} (q : x = y ∨ h.size ≤ x) (S : Safe Z EL vm h y) : Safe Z EL vm h x := by
  rcases q with q | q
  · rw [q]; exact S
  · exact Safe.new q
def own_d9 (r : Int32) : Prop := 0 ≤ r.toInt ∧ r.toInt ≤ 9
theorem own_dgt (x : Int64) : own_d9 (((((x - (x / (10 : Int64)) * (10 : Int64)) + (10 : Int64)) - (((x - (x / (10 : Int64)) * (10 : Int64)) + (10 : Int64)) / (10 : Int64)) * (10 : Int64))).toInt32) := by
  have a := c_lrem x 10 10 rfl
  generalize hy : x - (x / (10 : Int64)) * (10 : Int64) = y at a ⊢
  have e10 : (10 : Int64).toInt = 10 := rfl
  have b0 := rng64 y
  have b1 := c_ladd y 10
  have b2 := rng64 (y + 10)
  have yb : -9 ≤ y.toInt ∧ y.toInt ≤ 9 := by
    by_cases q : 0 ≤ x.toInt
    · have := a.1 q; omega
    · have := a.2 (by omega); omega
  have c := (c_lrem (y + 10) 10 10 rfl).1 (by omega)
  generalize hz : (y + 10) - ((y + 10) / (10 : Int64)) * (10 : Int64) = z at c ⊢
  have d0 := rng64 z
  have d1 := c_l2i z
  have d2 := rng32 z.toInt32
  exact ⟨by omega, by omega⟩
theorem own_fin10 {P : Int32 → Prop} (h : ∀ k : Fin 10, P (Int32.ofNat k.val)) {r : Int32} (q : own_d9 r) : P r := by
  obtain ⟨q1, q2⟩ := q
  have e : r = Int32.ofNat r.toInt.toNat := by
    apply Int32.toInt_inj.mp
    rw [Int32.toInt_ofNat_small (by omega)]; omega
  rw [e]; exact h ⟨r.toInt.toNat, by omega⟩
theorem own_chn {r : Int32} (q : own_d9 r) : nar .char (((48 : Int32) + r).toUInt32.toUInt16.toUInt32.toInt32) = ((48 : Int32) + r) := own_fin10 (P := fun r => nar .char (((48 : Int32) + r).toUInt32.toUInt16.toUInt32.toInt32) = ((48 : Int32) + r)) (by decide +kernel) q
theorem own_chr {r : Int32} (q : own_d9 r) : ¬ nar .char ((48 : Int32) + r) < 0 ∧ ¬ (255 : Int32) < nar .char ((48 : Int32) + r) := own_fin10 (P := fun r => ¬ nar .char ((48 : Int32) + r) < 0 ∧ ¬ (255 : Int32) < nar .char ((48 : Int32) + r)) (by decide +kernel) q
theorem own_dch {r : Int32} (q : own_d9 r) : own_dec r.toInt64 = [.int ((nar .char ((48 : Int32) + r)).toInt8.toInt32)] := by
  have t : (Int32.ofNat (48 + r.toInt.toNat)).toInt8.toInt32 = (nar .char ((48 : Int32) + r)).toInt8.toInt32 := own_fin10 (P := fun r => (Int32.ofNat (48 + r.toInt.toNat)).toInt8.toInt32 = (nar .char ((48 : Int32) + r)).toInt8.toInt32) (by decide +kernel) q
  have c1 := c_i2l r
  obtain ⟨q1, q2⟩ := q
  have h : ¬ r.toInt64 < (0 : Int64) := by
    rw [Int64.lt_iff_toInt_lt]; have e0 : (0 : Int64).toInt = 0 := rfl
    omega
  have e : r.toInt64.toInt.natAbs = r.toInt.toNat := by omega
  unfold own_dec
  rw [if_neg h, e, own_dg1 (by omega)]
  show [own_dig r.toInt.toNat] = _
  unfold own_dig; rw [t]
theorem own_sm1 {a b d g a' b' d' g' : Int64} (h : a = a' ∧ b = b' ∧ d = d' ∧ g = g') : (if a = a' then (if b = b' then (if d = d' then (if g = g' then (1 : Int32) else (0 : Int32)) else (0 : Int32)) else (0 : Int32)) else (0 : Int32)) = 1 := by
  rw [if_pos h.1, if_pos h.2.1, if_pos h.2.2.1, if_pos h.2.2.2]
theorem own_sm0 {a b d g a' b' d' g' : Int64} (h : ¬ (a = a' ∧ b = b' ∧ d = d' ∧ g = g')) : (if a = a' then (if b = b' then (if d = d' then (if g = g' then (1 : Int32) else (0 : Int32)) else (0 : Int32)) else (0 : Int32)) else (0 : Int32)) = 0 := by
  by_cases h1 : a = a'
  · rw [if_pos h1]
    by_cases h2 : b = b'
    · rw [if_pos h2]
      by_cases h3 : d = d'
      · rw [if_pos h3]
        by_cases h4 : g = g'
        · exact absurd ⟨h1, h2, h3, h4⟩ h
        · rw [if_neg h4]
      · rw [if_neg h3]
    · rw [if_neg h2]
  · rw [if_neg h1]
def own_rg (c : Int32) : Prop := ¬ c < 0 ∧ ¬ (255 : Int32) < c
theorem own_fin {P : Int32 → Prop} (h : ∀ k : Fin 256, P (Int32.ofNat k.val)) {c : Int32} (r : own_rg c) : P c := by
  obtain ⟨r1, r2⟩ := r
  rw [Int32.lt_iff_toInt_lt] at r1 r2
  have e0 : (0 : Int32).toInt = 0 := rfl
  have e1 : (255 : Int32).toInt = 255 := rfl
  have e : c = Int32.ofNat c.toInt.toNat := by
    apply Int32.toInt_inj.mp
    rw [Int32.toInt_ofNat_small (by omega)]; omega
  rw [e]; exact h ⟨c.toInt.toNat, by omega⟩
theorem own_back {c : Int32} (r : own_rg c) : nar .char (((c.toInt8.toInt32) &&& (255 : Int32)).toUInt32.toUInt16.toUInt32.toInt32) = c := own_fin (P := fun c => nar .char (((c.toInt8.toInt32) &&& (255 : Int32)).toUInt32.toUInt16.toUInt32.toInt32) = c) (by decide +kernel) r
theorem own_narc {c : Int32} (r : own_rg c) : nar .char c = c := own_fin (P := fun c => nar .char c = c) (by decide +kernel) r

theorem ef_rmCoder (m : MethodId) (x0 : Nat) : entryFrame m #[(.ref x0)] 1 = mkF m 0 #[.val (.ref x0)] [] := by first | (simp [entryFrame, mkF, argsToLocals, Value.category]; done) | rfl
theorem d9_0 : decode jdk_42_method_152_code 0 = .ok (.getstatic 38, 3) := by decide +kernel
theorem d9_3 : decode jdk_42_method_152_code 3 = .ok (.ifCond .eq 10, 3) := by decide +kernel
theorem d9_6 : decode jdk_42_method_152_code 6 = .ok (.aload_n 0, 1) := by decide +kernel
theorem d9_7 : decode jdk_42_method_152_code 7 = .ok (.getfield 15, 3) := by decide +kernel
theorem d9_10 : decode jdk_42_method_152_code 10 = .ok (.goto 4, 3) := by decide +kernel
theorem d9_14 : decode jdk_42_method_152_code 14 = .ok (.ireturn, 1) := by decide +kernel
theorem pn_java_lang_String : plainName "java/lang/String" = true := by first | (simp [plainName, overriddenIn]; done) | decide +kernel
def Q_rmCoder (Z : State) (so : Nat) (zc : Int32) (h0 : Heap) (n0 : Nat) (v : Option Value) (h : Heap) (L : List Loc) : Prop := v = some (.int (0 : Int32)) ∧ Fr n0 L ∧ h = h0
set_option maxRecDepth 65536 in
set_option maxHeartbeats 40000000 in
theorem rmCoder (l : Launch) (Z : State) (a0 : Array Value) (hw : ∀ d ∈ tables_1, d.before a0 Z = true) (ws : List Jvm.Cond) (so : Nat) (zc : Int32) (h0 : Heap) (n0 : Nat) (Z0 : n0 ≤ h0.size) (P1 : Fld Z h0 so "java/lang/String" "coder" "B" (.int (0 : Int32))) (OLD : Old Z n0 h0) (P2 : Sta Z Z.heap "java/lang/String" "COMPACT_STRINGS" "Z" (.int zc)) (hzc : ¬ (zc = (0 : Int32))) :
    MetFree l (⟨"java/lang/String", "coder", "()B"⟩ : MethodName) (head1 (Jvm.Cond.code (⟨"java/lang/String", "coder", "()B"⟩ : MethodName) jdk_42_method_152_code 1 (some .byte) :: ws) ({ frames := 0, cells := 0, slots := 0, locals := 0 } : Room)) (fun a U => a = #[(.ref so)] ∧ Z.Warmed39 U.vm ∧ U.heap = h0) (fun _ _ _ _ _ => True) (fun _ U o U' => ∃ v L, o = .returned v ∧ Q_rmCoder Z so zc h0 n0 v U'.heap L ∧ FrameEnd U o U' L ({ frames := 0, cells := 0, slots := 0, locals := 0 } : Room).cells ({ frames := 0, cells := 0, slots := 0, locals := 0 } : Room).slots) := by
  refine MetFree.of_bodySF (plainFor_of_name pn_java_lang_String) hisR ?_
  intro p e s m args below meth c s₁ Bd hml0 hP hK
  obtain ⟨rfl, hZ, hh⟩ := hP
  have hx := Bd.exec
  have hby := Bd.bytes
  have hml : c.maxLocals = 1 := hml0
  have hown : s.vm.findClass "java/lang/String" = some m.cls := findClass_of_methodNamed Bd.named
  have hnm := (name_of_methodNamed Bd.named Bd.method).1
  have X0 : Stand p l e ({ frames := 0, cells := 0, slots := 0, locals := 0 } : Room) s m #[(.ref so)] below meth c s₁ [] 0 0 := Stand.of_body Bd
  have e0 : s₁.heap = h0 := by rw [← hh, Bd.state]; rfl
  have N0 := Fr.nil n0
  have pre0 : ∀ t, Steps p.tables e below (s₁.setTop (mkF m 0 #[.val (.ref so)] [])) t → Steps p.tables e below (s₁.setTop (entryFrame m #[(.ref so)] 1)) t := fun t k => castTop (ef_rmCoder m so) k
  have oz := OLD.1
  have lt_so : so < h0.size := P1.lt
  refine own_go (B := s₁.setTop (mkF m 0 #[.val (.ref so)] [])) pre0 ?_
  show ∃ t o, Steps p.tables e below (s₁.setTop (mkF m 0 #[.val (.ref so)] [])) t ∧ _
  obtain ⟨T3, X3, e3, st3⟩ := getS2 X0 hx hZ hown (host := "") (Or.inl (hw _ (List.mem_of_getElem? (i := 69) rfl))) Via.refl e0 (Sta.ext OLD.2 P2) (g := (mkF m 0 #[.val (.ref so)] [])) rfl (hb hby d9_0)
  refine own_go st3 ?_
  show ∃ t o, Steps p.tables e below (T3.setTop (mkF m 3 #[.val (.ref so)] [(.int zc)])) t ∧ _
  refine own_go (fun _ => XS.ifNo X3.here hx rfl (hb hby d9_3) rfl ((if0 _ _).trans (feq hzc).1)) ?_
  refine own_go (fun _ => XS.aloadN X3.here hx rfl (hb hby d9_6) rfl rfl) ?_
  obtain ⟨T4, X4, e4, st4⟩ := getF X3 hx hZ hown (host := "") (Or.inl (hw _ (List.mem_of_getElem? (i := 70) rfl))) Via.refl e3 P1 (g := (mkF m 7 #[.val (.ref so)] [(.ref so)])) rfl rfl (hb hby d9_7)
  refine own_go st4 ?_
  refine own_go (fun _ => XS.goto X4.here hx rfl (pc0 := 10) (pc' := 14) rfl (hb hby d9_10) (by decide) (by decide)) ?_
  show ∃ t o, Steps p.tables e below (T4.setTop (mkF m 14 #[.val (.ref so)] [(.int (0 : Int32))])) t ∧ _
  obtain ⟨fs, hr, hrun, hended, hW, hsame⟩ := X4.leave (v := some (.int (0 : Int32))) (fun h => by rw [Bd.returns] at h; cases h)
  refine ⟨_, _, ?_, hrun, hended, _, _, rfl, ?_, ⟨_, rfl⟩, hW, hsame.mono (by decide) (by decide)⟩
  · exact retN X4 hx (t := .byte) Bd.returns (by simp) (hb hby d9_14) hr
  · show Q_rmCoder Z _ _ h0 n0 _ T4.heap _
    rw [e4]
    exact ⟨rfl, N0, rfl⟩
theorem ef_rmLenG (m : MethodId) (x0 : Nat) : entryFrame m #[(.ref x0)] 1 = mkF m 0 #[.val (.ref x0)] [] := by first | (simp [entryFrame, mkF, argsToLocals, Value.category]; done) | rfl
theorem d8_0 : decode jdk_42_method_54_code 0 = .ok (.aload_n 0, 1) := by decide +kernel
theorem d8_1 : decode jdk_42_method_54_code 1 = .ok (.getfield 9, 3) := by decide +kernel
theorem d8_4 : decode jdk_42_method_54_code 4 = .ok (.arraylength, 1) := by decide +kernel
theorem d8_5 : decode jdk_42_method_54_code 5 = .ok (.aload_n 0, 1) := by decide +kernel
theorem d8_6 : decode jdk_42_method_54_code 6 = .ok (.invokevirtual 335, 3) := by decide +kernel
theorem pd__28_29B : parseMethodDescriptor "()B" = some ⟨[], some .byte⟩ := by decide +kernel
theorem d8_9 : decode jdk_42_method_54_code 9 = .ok (.ishr, 1) := by decide +kernel
theorem d8_10 : decode jdk_42_method_54_code 10 = .ok (.ireturn, 1) := by decide +kernel
def Q_rmLenG (Z : State) (so : Nat) (tb : Nat) (kb : ClassId) (nn : Int32) (vs : List Value) (zc : Int32) (h0 : Heap) (n0 : Nat) (v : Option Value) (h : Heap) (L : List Loc) : Prop := v = some (.int nn) ∧ Fr n0 L ∧ h = h0
set_option maxRecDepth 65536 in
set_option maxHeartbeats 40000000 in
theorem rmLenG (l : Launch) (Z : State) (a0 : Array Value) (hw : ∀ d ∈ tables_1, d.before a0 Z = true) (ws : List Jvm.Cond) (so : Nat) (tb : Nat) (kb : ClassId) (nn : Int32) (vs : List Value) (zc : Int32) (h0 : Heap) (n0 : Nat) (Z0 : n0 ≤ h0.size) (P1 : Exa Z h0 so "java/lang/String") (P2 : Fld Z h0 so "java/lang/String" "value" "[B" (.ref tb)) (P3 : Fld Z h0 so "java/lang/String" "coder" "B" (.int (0 : Int32))) (P4 : Arv Z h0 tb kb .byte nn vs (.int (0 : Int32))) (OLD : Old Z n0 h0) (P5 : Sta Z Z.heap "java/lang/String" "COMPACT_STRINGS" "Z" (.int zc)) (hzc : ¬ (zc = (0 : Int32))) :
    MetFree l (⟨"java/lang/String", "length", "()I"⟩ : MethodName) (head1 (Jvm.Cond.code (⟨"java/lang/String", "length", "()I"⟩ : MethodName) jdk_42_method_54_code 1 (some .int) :: ws) ({ frames := 1, cells := 0, slots := 0, locals := 13 } : Room)) (fun a U => a = #[(.ref so)] ∧ Z.Warmed39 U.vm ∧ U.heap = h0) (fun _ _ _ _ _ => True) (fun _ U o U' => ∃ v L, o = .returned v ∧ Q_rmLenG Z so tb kb nn vs zc h0 n0 v U'.heap L ∧ FrameEnd U o U' L ({ frames := 1, cells := 0, slots := 0, locals := 13 } : Room).cells ({ frames := 1, cells := 0, slots := 0, locals := 13 } : Room).slots) := by
  refine MetFree.of_bodySF (plainFor_of_name pn_java_lang_String) hisR ?_
  intro p e s m args below meth c s₁ Bd hml0 hP hK
  obtain ⟨rfl, hZ, hh⟩ := hP
  have hx := Bd.exec
  have hby := Bd.bytes
  have hml : c.maxLocals = 1 := hml0
  have hown : s.vm.findClass "java/lang/String" = some m.cls := findClass_of_methodNamed Bd.named
  have hnm := (name_of_methodNamed Bd.named Bd.method).1
  have X0 : Stand p l e ({ frames := 1, cells := 0, slots := 0, locals := 13 } : Room) s m #[(.ref so)] below meth c s₁ [] 0 0 := Stand.of_body Bd
  have e0 : s₁.heap = h0 := by rw [← hh, Bd.state]; rfl
  have N0 := Fr.nil n0
  have pre0 : ∀ t, Steps p.tables e below (s₁.setTop (mkF m 0 #[.val (.ref so)] [])) t → Steps p.tables e below (s₁.setTop (entryFrame m #[(.ref so)] 1)) t := fun t k => castTop (ef_rmLenG m so) k
  have w_67 := hw _ (List.mem_of_getElem? (i := 67) rfl)
  have oz := OLD.1
  have lt_so : so < h0.size := P1.lt
  have lt_tb : tb < h0.size := P4.lt
  refine own_go (B := s₁.setTop (mkF m 0 #[.val (.ref so)] [])) pre0 ?_
  show ∃ t o, Steps p.tables e below (s₁.setTop (mkF m 0 #[.val (.ref so)] [])) t ∧ _
  refine own_go (fun _ => XS.aloadN X0.here hx rfl (hb hby d8_0) rfl rfl) ?_
  obtain ⟨T6, X6, e6, st6⟩ := getF X0 hx hZ hown (host := "") (Or.inl (hw _ (List.mem_of_getElem? (i := 63) rfl))) Via.refl e0 P2 (g := (mkF m 1 #[.val (.ref so)] [(.ref so)])) rfl rfl (hb hby d8_1)
  refine own_go st6 ?_
  obtain ⟨cl7, Ar7, q7, S7, N7, H7, G7⟩ := id P4
  have ln7 : cl7.slots.size.toInt32 = nn := len_of S7 N7
  have al7 := X6.arraylength hx (by rw [e6]; exact Ar7.1) (State.isArrayOf_alike hZ.alike Ar7.2.1) (g := (mkF m 4 #[.val (.ref so)] [(.ref tb)])) rfl rfl (hb hby d8_4)
  rw [ln7] at al7
  refine own_go al7 ?_
  refine own_go (fun _ => XS.aloadN X6.here hx rfl (hb hby d8_5) rfl rfl) ?_
  show ∃ t o, Steps p.tables e below (T6.setTop (mkF m 6 #[.val (.ref so)] [(.ref so), (.int nn)])) t ∧ _
  obtain ⟨cq8, kq8, q8a, q8b, q8c⟩ := isOf hZ e6 P1
  obtain ⟨_, _, ⟨T8, L8, k8, n8⟩, -, X8, ⟨Lc8, hQ8, l8, y8, z8⟩, st8⟩ := X6.virtualBack hx (y := (⟨"java/lang/String", "coder", "()B"⟩ : MethodName)) (z := (⟨"java/lang/String", "coder", "()B"⟩ : MethodName)) hown (mvT hZ (hw _ (List.mem_of_getElem? (i := 64) rfl))) (mvT hZ (hw _ (List.mem_of_getElem? (i := 65) rfl))) (notFace_of_selects (args := #[]) (mvT hZ w_67)) (mvT hZ w_67) (mvT hZ (hw _ (List.mem_of_getElem? (i := 66) rfl))) (by decide) (backOf (W := 1) (rmCoder l Z a0 hw [] so zc h0 n0 Z0 P3 OLD P5 hzc) hZ (hw _ (List.mem_of_getElem? (i := 68) rfl)) (hw _ (List.mem_of_getElem? (i := 36) rfl)) (by decide) (by decide)) q8a q8c (g := (mkF m 6 #[.val (.ref so)] [(.ref so), (.int nn)])) rfl (by rw [hml]; rfl) (Steps.refl _) (argsL := []) (rest := [(.int nn)]) (lenOf pd__28_29B rfl) rfl (by show 2 * 0 + _ ≤ _; exact Nat.le_of_eq rfl) (hb hby d8_6) (fun _ _ => ⟨rfl, e6, (by decide : 0 + 0 ≤ _), (by decide : 0 + 0 ≤ _)⟩)
  dsimp only [Pt.U, Pt.locs, Pt.cells, Pt.slots] at X8 l8 y8 z8 st8 hQ8
  rw [l8, y8, z8] at X8
  obtain ⟨rfl, Nq8, e8⟩ := hQ8
  have N8 := Fr.app N0 Nq8
  refine own_goT st8 ?_
  refine own_go (fun _ => XS.ishr X8.here hx rfl (hb hby d8_9) rfl) ?_
  show ∃ t o, Steps p.tables e below (T8.setTop (mkF m 10 #[.val (.ref so)] [(.int (nn >>> ((0 : Int32) &&& 31)))])) t ∧ _
  obtain ⟨fs, hr, hrun, hended, hW, hsame⟩ := X8.leave (v := some (.int (nn >>> ((0 : Int32) &&& 31)))) (fun h => by rw [Bd.returns] at h; cases h)
  refine ⟨_, _, ?_, hrun, hended, _, _, rfl, ?_, ⟨_, rfl⟩, hW, hsame.mono (by decide) (by decide)⟩
  · exact retI X8 hx Bd.returns (hb hby d8_10) hr
  · show Q_rmLenG Z _ _ _ _ _ _ h0 n0 _ T8.heap _
    rw [e8]
    exact ⟨(congrArg (fun z => some (Value.int z)) (own_shr0 _)), N8, rfl⟩
theorem ef_rmABI (m : MethodId) (x0 : Nat) (x1 : Int32) : entryFrame m #[(.ref x0), (.int x1)] 2 = mkF m 0 #[.val (.ref x0), .val (.int x1)] [] := by first | (simp [entryFrame, mkF, argsToLocals, Value.category]; done) | rfl
theorem d5_0 : decode jdk_68_method_2_code 0 = .ok (.aload_n 0, 1) := by decide +kernel
theorem d5_1 : decode jdk_68_method_2_code 1 = .ok (.invokespecial 3, 3) := by decide +kernel
theorem d5_4 : decode jdk_68_method_2_code 4 = .ok (.getstatic 18, 3) := by decide +kernel
theorem d5_7 : decode jdk_68_method_2_code 7 = .ok (.ifCond .eq 18, 3) := by decide +kernel
theorem d5_10 : decode jdk_68_method_2_code 10 = .ok (.aload_n 0, 1) := by decide +kernel
theorem d5_11 : decode jdk_68_method_2_code 11 = .ok (.iload_n 1, 1) := by decide +kernel
theorem d5_12 : decode jdk_68_method_2_code 12 = .ok (.newarray .byte, 2) := by decide +kernel
theorem d5_14 : decode jdk_68_method_2_code 14 = .ok (.putfield 15, 3) := by decide +kernel
theorem d5_17 : decode jdk_68_method_2_code 17 = .ok (.aload_n 0, 1) := by decide +kernel
theorem d5_18 : decode jdk_68_method_2_code 18 = .ok (.iconst 0, 1) := by decide +kernel
theorem d5_19 : decode jdk_68_method_2_code 19 = .ok (.putfield 22, 3) := by decide +kernel
theorem d5_22 : decode jdk_68_method_2_code 22 = .ok (.goto 16, 3) := by decide +kernel
theorem d5_38 : decode jdk_68_method_2_code 38 = .ok (.return_, 1) := by decide +kernel
theorem pn_java_lang_AbstractStringBuilder : plainName "java/lang/AbstractStringBuilder" = true := by first | (simp [plainName, overriddenIn]; done) | decide +kernel
def Q_rmABI (Z : State) (a1 : Nat) (zc : Int32) (h0 : Heap) (n0 : Nat) (v : Option Value) (h : Heap) (L : List Loc) : Prop := ∃ (vb : Nat), ∃ (kv : ClassId), v = none ∧ Fr n0 L ∧ Keep h0 h [a1] ∧ Exa Z h a1 "java/lang/StringBuilder" ∧ Fld Z h a1 "java/lang/AbstractStringBuilder" "value" "[B" (.ref vb) ∧ Fld Z h a1 "java/lang/AbstractStringBuilder" "coder" "B" (.int (0 : Int32)) ∧ Fld Z h a1 "java/lang/AbstractStringBuilder" "count" "I" (.int (0 : Int32)) ∧ Exa Z h vb "[B" ∧ Arv Z h vb kv .byte (16 : Int32) [] (.int (0 : Int32)) ∧ (h0.size ≤ vb)
set_option maxRecDepth 65536 in
set_option maxHeartbeats 40000000 in
theorem rmABI (l : Launch) (Z : State) (a0 : Array Value) (hw : ∀ d ∈ tables_1, d.before a0 Z = true) (ws : List Jvm.Cond) (a1 : Nat) (zc : Int32) (h0 : Heap) (n0 : Nat) (Z0 : n0 ≤ h0.size) (P1 : Exa Z h0 a1 "java/lang/StringBuilder") (P2 : Fld Z h0 a1 "java/lang/AbstractStringBuilder" "value" "[B" .null) (P3 : Fld Z h0 a1 "java/lang/AbstractStringBuilder" "coder" "B" (.int (0 : Int32))) (P4 : Fld Z h0 a1 "java/lang/AbstractStringBuilder" "count" "I" (.int (0 : Int32))) (OLD : Old Z n0 h0) (P5 : Sta Z Z.heap "java/lang/String" "COMPACT_STRINGS" "Z" (.int zc)) (hzc : ¬ (zc = (0 : Int32))) (ga : n0 ≤ a1) :
    MetFree l (⟨"java/lang/AbstractStringBuilder", "<init>", "(I)V"⟩ : MethodName) (head1 (Jvm.Cond.code (⟨"java/lang/AbstractStringBuilder", "<init>", "(I)V"⟩ : MethodName) jdk_68_method_2_code 2 none :: ws) ({ frames := 1, cells := 1, slots := 16, locals := 12 } : Room)) (fun a U => a = #[(.ref a1), (.int (16 : Int32))] ∧ Z.Warmed39 U.vm ∧ U.heap = h0) (fun _ _ _ _ _ => True) (fun _ U o U' => ∃ v L, o = .returned v ∧ Q_rmABI Z a1 zc h0 n0 v U'.heap L ∧ FrameEnd U o U' L ({ frames := 1, cells := 1, slots := 16, locals := 12 } : Room).cells ({ frames := 1, cells := 1, slots := 16, locals := 12 } : Room).slots) := by
  refine MetFree.of_bodySF (plainFor_of_name pn_java_lang_AbstractStringBuilder) hisR ?_
  intro p e s m args below meth c s₁ Bd hml0 hP hK
  obtain ⟨rfl, hZ, hh⟩ := hP
  have hx := Bd.exec
  have hby := Bd.bytes
  have hml : c.maxLocals = 2 := hml0
  have hown : s.vm.findClass "java/lang/AbstractStringBuilder" = some m.cls := findClass_of_methodNamed Bd.named
  have hnm := (name_of_methodNamed Bd.named Bd.method).1
  have X0 : Stand p l e ({ frames := 1, cells := 1, slots := 16, locals := 12 } : Room) s m #[(.ref a1), (.int (16 : Int32))] below meth c s₁ [] 0 0 := Stand.of_body Bd
  have e0 : s₁.heap = h0 := by rw [← hh, Bd.state]; rfl
  have N0 := Fr.nil n0
  have pre0 : ∀ t, Steps p.tables e below (s₁.setTop (mkF m 0 #[.val (.ref a1), .val (.int (16 : Int32))] [])) t → Steps p.tables e below (s₁.setTop (entryFrame m #[(.ref a1), (.int (16 : Int32))] 2)) t := fun t k => castTop (ef_rmABI m a1 (16 : Int32)) k
  have w_23 := hw _ (List.mem_of_getElem? (i := 23) rfl)
  have w_39 := hw _ (List.mem_of_getElem? (i := 39) rfl)
  have w_41 := hw _ (List.mem_of_getElem? (i := 41) rfl)
  have w_72 := hw _ (List.mem_of_getElem? (i := 72) rfl)
  have oz := OLD.1
  have lt_a1 : a1 < h0.size := P1.lt
  refine own_go (B := s₁.setTop (mkF m 0 #[.val (.ref a1), .val (.int (16 : Int32))] [])) pre0 ?_
  show ∃ t o, Steps p.tables e below (s₁.setTop (mkF m 0 #[.val (.ref a1), .val (.int (16 : Int32))] [])) t ∧ _
  refine own_go (fun _ => XS.aloadN X0.here hx rfl (hb hby d5_0) rfl rfl) ?_
  show ∃ t o, Steps p.tables e below (s₁.setTop (mkF m 1 #[.val (.ref a1), .val (.int (16 : Int32))] [(.ref a1)])) t ∧ _
  obtain ⟨T6, X6, e6, st6⟩ := initO X0 hx hZ hown (hw _ (List.mem_of_getElem? (i := 34) rfl)) (hw _ (List.mem_of_getElem? (i := 7) rfl)) (hw _ (List.mem_of_getElem? (i := 8) rfl)) e0 (g := (mkF m 1 #[.val (.ref a1), .val (.int (16 : Int32))] [(.ref a1)])) rfl (by rw [hml]; rfl) rfl (hb hby d5_1) (by decide) (W := 0) (by show 2 * 0 + _ ≤ _; exact Nat.le_of_eq rfl) (by decide)
  refine own_go st6 ?_
  obtain ⟨T7, X7, e7, st7⟩ := getS2 X6 hx hZ hown (host := "") (Or.inl (hw _ (List.mem_of_getElem? (i := 35) rfl))) Via.refl e6 (Sta.ext OLD.2 P5) (g := (mkF m 4 #[.val (.ref a1), .val (.int (16 : Int32))] [])) rfl (hb hby d5_4)
  refine own_go st7 ?_
  show ∃ t o, Steps p.tables e below (T7.setTop (mkF m 7 #[.val (.ref a1), .val (.int (16 : Int32))] [(.int zc)])) t ∧ _
  refine own_go (fun _ => XS.ifNo X7.here hx rfl (hb hby d5_7) rfl ((if0 _ _).trans (feq hzc).1)) ?_
  refine own_go (fun _ => XS.aloadN X7.here hx rfl (hb hby d5_10) rfl rfl) ?_
  refine own_go (fun _ => XS.iloadN X7.here hx rfl (hb hby d5_11) rfl) ?_
  show ∃ t o, Steps p.tables e below (T7.setTop (mkF m 12 #[.val (.ref a1), .val (.int (16 : Int32))] [(.int (16 : Int32)), (.ref a1)])) t ∧ _
  obtain ⟨T8, h8, k8, X8, e8, E8, A8, Q8, st8⟩ := newPE (aty := .byte) X7 hx hZ (hw _ (List.mem_of_getElem? (i := 37) rfl)) e7 (g := (mkF m 12 #[.val (.ref a1), .val (.int (16 : Int32))] [(.int (16 : Int32)), (.ref a1)])) rfl (hb hby d5_12) rfl (by decide) (cap := 16) (by decide) (by decide) (by decide) (by decide) (ad := "[B") rfl
  obtain ⟨b8, g8⟩ : ∃ z, z = h0.size := ⟨_, rfl⟩
  rw [← g8] at A8 Q8 st8
  refine own_go st8 ?_
  have le_8 : h0.size ≤ h8.size := E8.1
  have lt_b8 : b8 < h8.size := A8.lt
  have V_b8 : Arv Z h8 b8 k8 .byte (16 : Int32) [] (.int (0 : Int32)) := (Arv.new A8 (by decide)).pad (pad_rep [] (.int (0 : Int32)) 0)
  have K8 : Keep h0 h8 [a1] := Keep.ext (Keep.refl h0 [a1]) E8
  have F9 := (Exa.ext E8 P1)
  have F10 := (Fld.ext E8 P2)
  obtain ⟨T11, h11, X11, e11, W11, st11⟩ := putF X8 hx hZ hown (host := "") (Or.inl (hw _ (List.mem_of_getElem? (i := 38) rfl))) Via.refl e8 F10 F9 (Or.inl w_39) w_23 (ty := (.array .byte)) (by decide) rfl rfl (g := (mkF m 14 #[.val (.ref a1), .val (.int (16 : Int32))] [(.ref b8), (.ref a1)])) rfl rfl (hb hby d5_14)
  refine own_go st11 ?_
  have le_11 : h8.size ≤ h11.size := Nat.le_of_eq W11.size.symm
  have K11 : Keep h0 h11 [a1] := Keep.wr K8 W11 (Or.inl (List.mem_of_getElem? (i := 0) rfl))
  have N11 := Fr.snoc X11 N0 ga
  have Fw11 := Fld.same W11 F10
  refine own_go (fun _ => XS.aloadN X11.here hx rfl (hb hby d5_17) rfl rfl) ?_
  refine own_go (fun _ => XS.iconst X11.here hx rfl (hb hby d5_18)) ?_
  have F12 := (Exa.wr W11 F9)
  have F13 := (Fld.other W11 (Fld.ext E8 P3) (Or.inr (slot_ne (a0 := a0) (Or.inl w_41) (Or.inl w_39) (by decide) (t := .byte) (t' := (.array .byte)) (by decide) (by decide))))
  obtain ⟨T14, h14, X14, e14, W14, st14⟩ := putFN X11 hx hZ hown (hw _ (List.mem_of_getElem? (i := 40) rfl)) Via.refl e11 F13 F12 (Or.inl w_41) w_23 (ty := .byte) (v' := (.int (0 : Int32).toInt8.toInt32)) (by decide) rfl (fits_nar_byte _) (g := (mkF m 19 #[.val (.ref a1), .val (.int (16 : Int32))] [(.int (0 : Int32)), (.ref a1)])) rfl rfl (hb hby d5_19)
  refine own_go st14 ?_
  have le_14 : h11.size ≤ h14.size := Nat.le_of_eq W14.size.symm
  have K14 : Keep h0 h14 [a1] := Keep.wr K11 W14 (Or.inl (List.mem_of_getElem? (i := 0) rfl))
  have N14 := Fr.snoc X14 N11 ga
  have Fw14 := Fld.same W14 F13
  have Fcz : Fld Z h14 a1 "java/lang/AbstractStringBuilder" "coder" "B" (.int (0 : Int32)) := Fw14
  refine own_go (fun _ => XS.goto X14.here hx rfl (pc0 := 22) (pc' := 38) rfl (hb hby d5_22) (by decide) (by decide)) ?_
  show ∃ t o, Steps p.tables e below (T14.setTop (mkF m 38 #[.val (.ref a1), .val (.int (16 : Int32))] [])) t ∧ _
  have F15 := (Exa.wr W14 F12)
  have F16 := (Fld.other W14 Fw11 (Or.inr (slot_ne (a0 := a0) (Or.inl w_39) (Or.inl w_41) (by decide) (t := (.array .byte)) (t' := .byte) (by decide) (by decide))))
  have F17 := (Fld.other W14 (Fld.other W11 (Fld.ext E8 P4) (Or.inr (slot_ne (a0 := a0) (Or.inl w_72) (Or.inl w_39) (by decide) (t := .int) (t' := (.array .byte)) (by decide) (by decide)))) (Or.inr (slot_ne (a0 := a0) (Or.inl w_72) (Or.inl w_41) (by decide) (t := .int) (t' := .byte) (by decide) (by decide))))
  have F18 := (Exa.wr W14 (Exa.wr W11 Q8))
  have ne19 : b8 ≠ a1 := own_ne (by omega)
  have F20 := (Arv.other (Arv.other V_b8 W11 ne19) W14 ne19)
  obtain ⟨fs, hr, hrun, hended, hW, hsame⟩ := X14.leave (v := none) (fun _ => rfl)
  refine ⟨_, _, ?_, hrun, hended, _, _, rfl, ?_, ⟨_, rfl⟩, hW, hsame.mono (by decide) (by decide)⟩
  · exact X14.returnOut hx Bd.returns (hb hby d5_38) hr
  · show Q_rmABI Z _ _ h0 n0 _ T14.heap _
    rw [e14]
    exact ⟨b8, k8, rfl, N14, K14, F15, F16, Fcz, F17, F18, F20, (by omega)⟩
theorem ef_rmSBI (m : MethodId) (x0 : Nat) : entryFrame m #[(.ref x0)] 1 = mkF m 0 #[.val (.ref x0)] [] := by first | (simp [entryFrame, mkF, argsToLocals, Value.category]; done) | rfl
theorem d4_0 : decode jdk_67_method_1_code 0 = .ok (.aload_n 0, 1) := by decide +kernel
theorem d4_1 : decode jdk_67_method_1_code 1 = .ok (.bipush 16, 2) := by decide +kernel
theorem d4_3 : decode jdk_67_method_1_code 3 = .ok (.invokespecial 1, 3) := by decide +kernel
theorem pd__28I_29V : parseMethodDescriptor "(I)V" = some ⟨[.int], none⟩ := by decide +kernel
theorem d4_6 : decode jdk_67_method_1_code 6 = .ok (.return_, 1) := by decide +kernel
theorem pn_java_lang_StringBuilder : plainName "java/lang/StringBuilder" = true := by first | (simp [plainName, overriddenIn]; done) | decide +kernel
def Q_rmSBI (Z : State) (a1 : Nat) (zc : Int32) (h0 : Heap) (n0 : Nat) (v : Option Value) (h : Heap) (L : List Loc) : Prop := ∃ (vb : Nat), ∃ (kv : ClassId), v = none ∧ Fr n0 L ∧ Keep h0 h [a1] ∧ Exa Z h a1 "java/lang/StringBuilder" ∧ Fld Z h a1 "java/lang/AbstractStringBuilder" "value" "[B" (.ref vb) ∧ Fld Z h a1 "java/lang/AbstractStringBuilder" "coder" "B" (.int (0 : Int32)) ∧ Fld Z h a1 "java/lang/AbstractStringBuilder" "count" "I" (.int (0 : Int32)) ∧ Exa Z h vb "[B" ∧ Arv Z h vb kv .byte (16 : Int32) [] (.int (0 : Int32)) ∧ (h0.size ≤ vb)
set_option maxRecDepth 65536 in
set_option maxHeartbeats 40000000 in
theorem rmSBI (l : Launch) (Z : State) (a0 : Array Value) (hw : ∀ d ∈ tables_1, d.before a0 Z = true) (ws : List Jvm.Cond) (a1 : Nat) (zc : Int32) (h0 : Heap) (n0 : Nat) (Z0 : n0 ≤ h0.size) (P1 : Exa Z h0 a1 "java/lang/StringBuilder") (P2 : Fld Z h0 a1 "java/lang/AbstractStringBuilder" "value" "[B" .null) (P3 : Fld Z h0 a1 "java/lang/AbstractStringBuilder" "coder" "B" (.int (0 : Int32))) (P4 : Fld Z h0 a1 "java/lang/AbstractStringBuilder" "count" "I" (.int (0 : Int32))) (OLD : Old Z n0 h0) (P5 : Sta Z Z.heap "java/lang/String" "COMPACT_STRINGS" "Z" (.int zc)) (hzc : ¬ (zc = (0 : Int32))) (ga : n0 ≤ a1) :
    MetFree l (⟨"java/lang/StringBuilder", "<init>", "()V"⟩ : MethodName) (head1 (Jvm.Cond.code (⟨"java/lang/StringBuilder", "<init>", "()V"⟩ : MethodName) jdk_67_method_1_code 1 none :: ws) ({ frames := 2, cells := 1, slots := 16, locals := 25 } : Room)) (fun a U => a = #[(.ref a1)] ∧ Z.Warmed39 U.vm ∧ U.heap = h0) (fun _ _ _ _ _ => True) (fun _ U o U' => ∃ v L, o = .returned v ∧ Q_rmSBI Z a1 zc h0 n0 v U'.heap L ∧ FrameEnd U o U' L ({ frames := 2, cells := 1, slots := 16, locals := 25 } : Room).cells ({ frames := 2, cells := 1, slots := 16, locals := 25 } : Room).slots) := by
  refine MetFree.of_bodySF (plainFor_of_name pn_java_lang_StringBuilder) hisR ?_
  intro p e s m args below meth c s₁ Bd hml0 hP hK
  obtain ⟨rfl, hZ, hh⟩ := hP
  have hx := Bd.exec
  have hby := Bd.bytes
  have hml : c.maxLocals = 1 := hml0
  have hown : s.vm.findClass "java/lang/StringBuilder" = some m.cls := findClass_of_methodNamed Bd.named
  have hnm := (name_of_methodNamed Bd.named Bd.method).1
  have X0 : Stand p l e ({ frames := 2, cells := 1, slots := 16, locals := 25 } : Room) s m #[(.ref a1)] below meth c s₁ [] 0 0 := Stand.of_body Bd
  have e0 : s₁.heap = h0 := by rw [← hh, Bd.state]; rfl
  have N0 := Fr.nil n0
  have pre0 : ∀ t, Steps p.tables e below (s₁.setTop (mkF m 0 #[.val (.ref a1)] [])) t → Steps p.tables e below (s₁.setTop (entryFrame m #[(.ref a1)] 1)) t := fun t k => castTop (ef_rmSBI m a1) k
  have w_33 := hw _ (List.mem_of_getElem? (i := 33) rfl)
  have oz := OLD.1
  have lt_a1 : a1 < h0.size := P1.lt
  refine own_go (B := s₁.setTop (mkF m 0 #[.val (.ref a1)] [])) pre0 ?_
  show ∃ t o, Steps p.tables e below (s₁.setTop (mkF m 0 #[.val (.ref a1)] [])) t ∧ _
  refine own_go (fun _ => XS.aloadN X0.here hx rfl (hb hby d4_0) rfl rfl) ?_
  refine own_go (fun _ => XS.bipush X0.here hx rfl (hb hby d4_1)) ?_
  show ∃ t o, Steps p.tables e below (s₁.setTop (mkF m 3 #[.val (.ref a1)] [(.int (16 : Int32)), (.ref a1)])) t ∧ _
  obtain ⟨_, _, ⟨T6, L6, k6, n6⟩, -, X6, ⟨Lc6, hQ6, l6, y6, z6⟩, st6⟩ := X0.specialBack hx (y := (⟨"java/lang/AbstractStringBuilder", "<init>", "(I)V"⟩ : MethodName)) rfl hown (mvT hZ (hw _ (List.mem_of_getElem? (i := 28) rfl))) (mvT hZ (hw _ (List.mem_of_getElem? (i := 29) rfl))) (mvT hZ w_33) (by decide) (backOf (W := 0) (rmABI l Z a0 hw [] a1 zc h0 n0 Z0 P1 P2 P3 P4 OLD P5 hzc ga) hZ w_33 (hw _ (List.mem_of_getElem? (i := 32) rfl)) (by decide) (by decide)) (g := (mkF m 3 #[.val (.ref a1)] [(.int (16 : Int32)), (.ref a1)])) rfl (by rw [hml]; rfl) (Steps.refl _) (a := a1) (argsL := [(.int (16 : Int32))]) (rest := []) (lenOf pd__28I_29V rfl) rfl (by show 2 * 0 + _ ≤ _; exact Nat.le_of_eq rfl) (hb hby d4_3) (fun _ _ => ⟨rfl, e0, (by decide : 0 + 1 ≤ _), (by decide : 0 + 16 ≤ _)⟩)
  dsimp only [Pt.U, Pt.locs, Pt.cells, Pt.slots] at X6 l6 y6 z6 st6 hQ6
  rw [l6, y6, z6] at X6
  obtain ⟨vb_6, kv_6, rfl, Nq6, Kp6, G6_0, G6_1, G6_2, G6_3, G6_4, G6_5, H6_0⟩ := hQ6
  have N6 := Fr.app N0 Nq6
  refine own_goT st6 ?_
  have le_6 : h0.size ≤ T6.heap.size := Kp6.1
  have K6 : Keep h0 T6.heap [a1] := Keep.trans (Keep.refl h0 [a1]) Kp6 (allS (Or.inl (List.mem_of_getElem? (i := 0) rfl)) all0)
  have lt_vb_6 : vb_6 < T6.heap.size := (G6_4).lt
  show ∃ t o, Steps p.tables e below (T6.setTop (mkF m 6 #[.val (.ref a1)] [])) t ∧ _
  obtain ⟨fs, hr, hrun, hended, hW, hsame⟩ := X6.leave (v := none) (fun _ => rfl)
  refine ⟨_, _, ?_, hrun, hended, _, _, rfl, ?_, ⟨_, rfl⟩, hW, hsame.mono (by decide) (by decide)⟩
  · exact X6.returnOut hx Bd.returns (hb hby d4_6) hr
  · show Q_rmSBI Z _ _ h0 n0 _ T6.heap _
    exact ⟨vb_6, kv_6, rfl, N6, K6, G6_0, G6_1, G6_2, G6_3, G6_4, G6_5, H6_0⟩
theorem ef_rmMax (m : MethodId) (x0 : Int32) (x1 : Int32) : entryFrame m #[(.int x0), (.int x1)] 2 = mkF m 0 #[.val (.int x0), .val (.int x1)] [] := by first | (simp [entryFrame, mkF, argsToLocals, Value.category]; done) | rfl
theorem d13_0 : decode jdk_29_method_65_code 0 = .ok (.iload_n 0, 1) := by decide +kernel
theorem d13_1 : decode jdk_29_method_65_code 1 = .ok (.iload_n 1, 1) := by decide +kernel
theorem d13_2 : decode jdk_29_method_65_code 2 = .ok (.if_icmp .lt 7, 3) := by decide +kernel
theorem d13_9 : decode jdk_29_method_65_code 9 = .ok (.iload_n 1, 1) := by decide +kernel
theorem d13_10 : decode jdk_29_method_65_code 10 = .ok (.ireturn, 1) := by decide +kernel
theorem d13_5 : decode jdk_29_method_65_code 5 = .ok (.iload_n 0, 1) := by decide +kernel
theorem d13_6 : decode jdk_29_method_65_code 6 = .ok (.goto 4, 3) := by decide +kernel
def Q_rmMax (Z : State) (xa : Int32) (xb : Int32) (h0 : Heap) (n0 : Nat) (v : Option Value) (h : Heap) (L : List Loc) : Prop := v = some (.int (if xa < xb then xb else xa)) ∧ Fr n0 L ∧ h = h0
set_option maxRecDepth 65536 in
set_option maxHeartbeats 40000000 in
theorem rmMax (l : Launch) (Z : State) (a0 : Array Value) (hw : ∀ d ∈ tables_1, d.before a0 Z = true) (ws : List Jvm.Cond) (xa : Int32) (xb : Int32) (h0 : Heap) (n0 : Nat) (Z0 : n0 ≤ h0.size) (OLD : Old Z n0 h0) :
    MetFree l (⟨"java/lang/Math", "max", "(II)I"⟩ : MethodName) (head1 (Jvm.Cond.code (⟨"java/lang/Math", "max", "(II)I"⟩ : MethodName) jdk_29_method_65_code 2 (some .int) :: ws) ({ frames := 0, cells := 0, slots := 0, locals := 0 } : Room)) (fun a U => a = #[(.int xa), (.int xb)] ∧ Z.Warmed39 U.vm ∧ U.heap = h0) (fun _ _ _ _ _ => True) (fun _ U o U' => ∃ v L, o = .returned v ∧ Q_rmMax Z xa xb h0 n0 v U'.heap L ∧ FrameEnd U o U' L ({ frames := 0, cells := 0, slots := 0, locals := 0 } : Room).cells ({ frames := 0, cells := 0, slots := 0, locals := 0 } : Room).slots) := by
  refine MetFree.of_bodySF (Jvm.Free.JP.mathPlain rfl (by decide +kernel)) hisR ?_
  intro p e s m args below meth c s₁ Bd hml0 hP hK
  obtain ⟨rfl, hZ, hh⟩ := hP
  have hx := Bd.exec
  have hby := Bd.bytes
  have hml : c.maxLocals = 2 := hml0
  have hown : s.vm.findClass "java/lang/Math" = some m.cls := findClass_of_methodNamed Bd.named
  have hnm := (name_of_methodNamed Bd.named Bd.method).1
  have X0 : Stand p l e ({ frames := 0, cells := 0, slots := 0, locals := 0 } : Room) s m #[(.int xa), (.int xb)] below meth c s₁ [] 0 0 := Stand.of_body Bd
  have e0 : s₁.heap = h0 := by rw [← hh, Bd.state]; rfl
  have N0 := Fr.nil n0
  have pre0 : ∀ t, Steps p.tables e below (s₁.setTop (mkF m 0 #[.val (.int xa), .val (.int xb)] [])) t → Steps p.tables e below (s₁.setTop (entryFrame m #[(.int xa), (.int xb)] 2)) t := fun t k => castTop (ef_rmMax m xa xb) k
  have oz := OLD.1
  refine own_go (B := s₁.setTop (mkF m 0 #[.val (.int xa), .val (.int xb)] [])) pre0 ?_
  show ∃ t o, Steps p.tables e below (s₁.setTop (mkF m 0 #[.val (.int xa), .val (.int xb)] [])) t ∧ _
  refine own_go (fun _ => XS.iloadN X0.here hx rfl (hb hby d13_0) rfl) ?_
  refine own_go (fun _ => XS.iloadN X0.here hx rfl (hb hby d13_1) rfl) ?_
  show ∃ t o, Steps p.tables e below (s₁.setTop (mkF m 2 #[.val (.int xa), .val (.int xb)] [(.int xb), (.int xa)])) t ∧ _
  by_cases hc1 : xa < xb
  · refine own_go (fun _ => XS.icmpYes X0.here hx rfl (pc0 := 2) (pc' := 9) rfl (hb hby d13_2) rfl (tlt hc1).1 (by decide) (by decide)) ?_
    refine own_go (fun _ => XS.iloadN X0.here hx rfl (hb hby d13_9) rfl) ?_
    show ∃ t o, Steps p.tables e below (s₁.setTop (mkF m 10 #[.val (.int xa), .val (.int xb)] [(.int xb)])) t ∧ _
    obtain ⟨fs, hr, hrun, hended, hW, hsame⟩ := X0.leave (v := some (.int xb)) (fun h => by rw [Bd.returns] at h; cases h)
    refine ⟨_, _, ?_, hrun, hended, _, _, rfl, ?_, ⟨_, rfl⟩, hW, hsame.mono (by decide) (by decide)⟩
    · exact retI X0 hx Bd.returns (hb hby d13_10) hr
    · show Q_rmMax Z _ _ h0 n0 _ s₁.heap _
      rw [e0]
      exact ⟨(by simp only [if_pos hc1]), N0, rfl⟩
  · refine own_go (fun _ => XS.icmpNo X0.here hx rfl (hb hby d13_2) rfl (flt hc1).1) ?_
    refine own_go (fun _ => XS.iloadN X0.here hx rfl (hb hby d13_5) rfl) ?_
    refine own_go (fun _ => XS.goto X0.here hx rfl (pc0 := 6) (pc' := 10) rfl (hb hby d13_6) (by decide) (by decide)) ?_
    show ∃ t o, Steps p.tables e below (s₁.setTop (mkF m 10 #[.val (.int xa), .val (.int xb)] [(.int xa)])) t ∧ _
    obtain ⟨fs, hr, hrun, hended, hW, hsame⟩ := X0.leave (v := some (.int xa)) (fun h => by rw [Bd.returns] at h; cases h)
    refine ⟨_, _, ?_, hrun, hended, _, _, rfl, ?_, ⟨_, rfl⟩, hW, hsame.mono (by decide) (by decide)⟩
    · exact retI X0 hx Bd.returns (hb hby d13_10) hr
    · show Q_rmMax Z _ _ h0 n0 _ s₁.heap _
      rw [e0]
      exact ⟨(by simp only [if_neg hc1]), N0, rfl⟩
theorem ef_rmMinA (m : MethodId) (x0 : Int32) (x1 : Int32) : entryFrame m #[(.int x0), (.int x1)] 2 = mkF m 0 #[.val (.int x0), .val (.int x1)] [] := by first | (simp [entryFrame, mkF, argsToLocals, Value.category]; done) | rfl
theorem d15_0 : decode jdk_29_method_69_code 0 = .ok (.iload_n 0, 1) := by decide +kernel
theorem d15_1 : decode jdk_29_method_69_code 1 = .ok (.iload_n 1, 1) := by decide +kernel
theorem d15_2 : decode jdk_29_method_69_code 2 = .ok (.if_icmp .gt 7, 3) := by decide +kernel
theorem d15_5 : decode jdk_29_method_69_code 5 = .ok (.iload_n 0, 1) := by decide +kernel
theorem d15_6 : decode jdk_29_method_69_code 6 = .ok (.goto 4, 3) := by decide +kernel
theorem d15_10 : decode jdk_29_method_69_code 10 = .ok (.ireturn, 1) := by decide +kernel
def Q_rmMinA (Z : State) (xa : Int32) (xb : Int32) (h0 : Heap) (n0 : Nat) (v : Option Value) (h : Heap) (L : List Loc) : Prop := v = some (.int xa) ∧ Fr n0 L ∧ h = h0
set_option maxRecDepth 65536 in
set_option maxHeartbeats 40000000 in
theorem rmMinA (l : Launch) (Z : State) (a0 : Array Value) (hw : ∀ d ∈ tables_1, d.before a0 Z = true) (ws : List Jvm.Cond) (xa : Int32) (xb : Int32) (h0 : Heap) (n0 : Nat) (Z0 : n0 ≤ h0.size) (OLD : Old Z n0 h0) (q1 : ¬ (xb < xa)) :
    MetFree l (⟨"java/lang/Math", "min", "(II)I"⟩ : MethodName) (head1 (Jvm.Cond.code (⟨"java/lang/Math", "min", "(II)I"⟩ : MethodName) jdk_29_method_69_code 2 (some .int) :: ws) ({ frames := 0, cells := 0, slots := 0, locals := 0 } : Room)) (fun a U => a = #[(.int xa), (.int xb)] ∧ Z.Warmed39 U.vm ∧ U.heap = h0) (fun _ _ _ _ _ => True) (fun _ U o U' => ∃ v L, o = .returned v ∧ Q_rmMinA Z xa xb h0 n0 v U'.heap L ∧ FrameEnd U o U' L ({ frames := 0, cells := 0, slots := 0, locals := 0 } : Room).cells ({ frames := 0, cells := 0, slots := 0, locals := 0 } : Room).slots) := by
  refine MetFree.of_bodySF (Jvm.Free.JP.mathPlain rfl (by decide +kernel)) hisR ?_
  intro p e s m args below meth c s₁ Bd hml0 hP hK
  obtain ⟨rfl, hZ, hh⟩ := hP
  have hx := Bd.exec
  have hby := Bd.bytes
  have hml : c.maxLocals = 2 := hml0
  have hown : s.vm.findClass "java/lang/Math" = some m.cls := findClass_of_methodNamed Bd.named
  have hnm := (name_of_methodNamed Bd.named Bd.method).1
  have X0 : Stand p l e ({ frames := 0, cells := 0, slots := 0, locals := 0 } : Room) s m #[(.int xa), (.int xb)] below meth c s₁ [] 0 0 := Stand.of_body Bd
  have e0 : s₁.heap = h0 := by rw [← hh, Bd.state]; rfl
  have N0 := Fr.nil n0
  have pre0 : ∀ t, Steps p.tables e below (s₁.setTop (mkF m 0 #[.val (.int xa), .val (.int xb)] [])) t → Steps p.tables e below (s₁.setTop (entryFrame m #[(.int xa), (.int xb)] 2)) t := fun t k => castTop (ef_rmMinA m xa xb) k
  have oz := OLD.1
  refine own_go (B := s₁.setTop (mkF m 0 #[.val (.int xa), .val (.int xb)] [])) pre0 ?_
  show ∃ t o, Steps p.tables e below (s₁.setTop (mkF m 0 #[.val (.int xa), .val (.int xb)] [])) t ∧ _
  refine own_go (fun _ => XS.iloadN X0.here hx rfl (hb hby d15_0) rfl) ?_
  refine own_go (fun _ => XS.iloadN X0.here hx rfl (hb hby d15_1) rfl) ?_
  show ∃ t o, Steps p.tables e below (s₁.setTop (mkF m 2 #[.val (.int xa), .val (.int xb)] [(.int xb), (.int xa)])) t ∧ _
  refine own_go (fun _ => XS.icmpNo X0.here hx rfl (hb hby d15_2) rfl (flt q1).2.2.1) ?_
  refine own_go (fun _ => XS.iloadN X0.here hx rfl (hb hby d15_5) rfl) ?_
  refine own_go (fun _ => XS.goto X0.here hx rfl (pc0 := 6) (pc' := 10) rfl (hb hby d15_6) (by decide) (by decide)) ?_
  show ∃ t o, Steps p.tables e below (s₁.setTop (mkF m 10 #[.val (.int xa), .val (.int xb)] [(.int xa)])) t ∧ _
  obtain ⟨fs, hr, hrun, hended, hW, hsame⟩ := X0.leave (v := some (.int xa)) (fun h => by rw [Bd.returns] at h; cases h)
  refine ⟨_, _, ?_, hrun, hended, _, _, rfl, ?_, ⟨_, rfl⟩, hW, hsame.mono (by decide) (by decide)⟩
  · exact retI X0 hx Bd.returns (hb hby d15_10) hr
  · show Q_rmMinA Z _ _ h0 n0 _ s₁.heap _
    rw [e0]
    exact ⟨rfl, N0, rfl⟩
theorem ef_rmMinB (m : MethodId) (x0 : Int32) (x1 : Int32) : entryFrame m #[(.int x0), (.int x1)] 2 = mkF m 0 #[.val (.int x0), .val (.int x1)] [] := by first | (simp [entryFrame, mkF, argsToLocals, Value.category]; done) | rfl
theorem d15_9 : decode jdk_29_method_69_code 9 = .ok (.iload_n 1, 1) := by decide +kernel
def Q_rmMinB (Z : State) (xa : Int32) (xb : Int32) (h0 : Heap) (n0 : Nat) (v : Option Value) (h : Heap) (L : List Loc) : Prop := v = some (.int xb) ∧ Fr n0 L ∧ h = h0
set_option maxRecDepth 65536 in
set_option maxHeartbeats 40000000 in
theorem rmMinB (l : Launch) (Z : State) (a0 : Array Value) (hw : ∀ d ∈ tables_1, d.before a0 Z = true) (ws : List Jvm.Cond) (xa : Int32) (xb : Int32) (h0 : Heap) (n0 : Nat) (Z0 : n0 ≤ h0.size) (OLD : Old Z n0 h0) (q1 : xb < xa) :
    MetFree l (⟨"java/lang/Math", "min", "(II)I"⟩ : MethodName) (head1 (Jvm.Cond.code (⟨"java/lang/Math", "min", "(II)I"⟩ : MethodName) jdk_29_method_69_code 2 (some .int) :: ws) ({ frames := 0, cells := 0, slots := 0, locals := 0 } : Room)) (fun a U => a = #[(.int xa), (.int xb)] ∧ Z.Warmed39 U.vm ∧ U.heap = h0) (fun _ _ _ _ _ => True) (fun _ U o U' => ∃ v L, o = .returned v ∧ Q_rmMinB Z xa xb h0 n0 v U'.heap L ∧ FrameEnd U o U' L ({ frames := 0, cells := 0, slots := 0, locals := 0 } : Room).cells ({ frames := 0, cells := 0, slots := 0, locals := 0 } : Room).slots) := by
  refine MetFree.of_bodySF (Jvm.Free.JP.mathPlain rfl (by decide +kernel)) hisR ?_
  intro p e s m args below meth c s₁ Bd hml0 hP hK
  obtain ⟨rfl, hZ, hh⟩ := hP
  have hx := Bd.exec
  have hby := Bd.bytes
  have hml : c.maxLocals = 2 := hml0
  have hown : s.vm.findClass "java/lang/Math" = some m.cls := findClass_of_methodNamed Bd.named
  have hnm := (name_of_methodNamed Bd.named Bd.method).1
  have X0 : Stand p l e ({ frames := 0, cells := 0, slots := 0, locals := 0 } : Room) s m #[(.int xa), (.int xb)] below meth c s₁ [] 0 0 := Stand.of_body Bd
  have e0 : s₁.heap = h0 := by rw [← hh, Bd.state]; rfl
  have N0 := Fr.nil n0
  have pre0 : ∀ t, Steps p.tables e below (s₁.setTop (mkF m 0 #[.val (.int xa), .val (.int xb)] [])) t → Steps p.tables e below (s₁.setTop (entryFrame m #[(.int xa), (.int xb)] 2)) t := fun t k => castTop (ef_rmMinB m xa xb) k
  have oz := OLD.1
  refine own_go (B := s₁.setTop (mkF m 0 #[.val (.int xa), .val (.int xb)] [])) pre0 ?_
  show ∃ t o, Steps p.tables e below (s₁.setTop (mkF m 0 #[.val (.int xa), .val (.int xb)] [])) t ∧ _
  refine own_go (fun _ => XS.iloadN X0.here hx rfl (hb hby d15_0) rfl) ?_
  refine own_go (fun _ => XS.iloadN X0.here hx rfl (hb hby d15_1) rfl) ?_
  show ∃ t o, Steps p.tables e below (s₁.setTop (mkF m 2 #[.val (.int xa), .val (.int xb)] [(.int xb), (.int xa)])) t ∧ _
  refine own_go (fun _ => XS.icmpYes X0.here hx rfl (pc0 := 2) (pc' := 9) rfl (hb hby d15_2) rfl (tlt q1).2.2.1 (by decide) (by decide)) ?_
  refine own_go (fun _ => XS.iloadN X0.here hx rfl (hb hby d15_9) rfl) ?_
  show ∃ t o, Steps p.tables e below (s₁.setTop (mkF m 10 #[.val (.int xa), .val (.int xb)] [(.int xb)])) t ∧ _
  obtain ⟨fs, hr, hrun, hended, hW, hsame⟩ := X0.leave (v := some (.int xb)) (fun h => by rw [Bd.returns] at h; cases h)
  refine ⟨_, _, ?_, hrun, hended, _, _, rfl, ?_, ⟨_, rfl⟩, hW, hsame.mono (by decide) (by decide)⟩
  · exact retI X0 hx Bd.returns (hb hby d15_10) hr
  · show Q_rmMinB Z _ _ h0 n0 _ s₁.heap _
    rw [e0]
    exact ⟨rfl, N0, rfl⟩
theorem ef_rmNL (m : MethodId) (x0 : Int32) (x1 : Int32) (x2 : Int32) : entryFrame m #[(.int x0), (.int x1), (.int x2)] 4 = mkF m 0 #[.val (.int x0), .val (.int x1), .val (.int x2), .unset] [] := by first | (simp [entryFrame, mkF, argsToLocals, Value.category]; done) | rfl
theorem d12_0 : decode jdk_48_method_27_code 0 = .ok (.iload_n 0, 1) := by decide +kernel
theorem d12_1 : decode jdk_48_method_27_code 1 = .ok (.iload_n 1, 1) := by decide +kernel
theorem d12_2 : decode jdk_48_method_27_code 2 = .ok (.iload_n 2, 1) := by decide +kernel
theorem d12_3 : decode jdk_48_method_27_code 3 = .ok (.invokestatic 194, 3) := by decide +kernel
theorem pd__28II_29I : parseMethodDescriptor "(II)I" = some ⟨[.int, .int], some .int⟩ := by decide +kernel
theorem d12_6 : decode jdk_48_method_27_code 6 = .ok (.iadd, 1) := by decide +kernel
theorem d12_7 : decode jdk_48_method_27_code 7 = .ok (.istore_n 3, 1) := by decide +kernel
theorem d12_8 : decode jdk_48_method_27_code 8 = .ok (.iconst 0, 1) := by decide +kernel
theorem d12_9 : decode jdk_48_method_27_code 9 = .ok (.iload_n 3, 1) := by decide +kernel
theorem d12_10 : decode jdk_48_method_27_code 10 = .ok (.if_icmp .ge 11, 3) := by decide +kernel
theorem d12_13 : decode jdk_48_method_27_code 13 = .ok (.iload_n 3, 1) := by decide +kernel
theorem d12_14 : decode jdk_48_method_27_code 14 = .ok (.ldc 200, 2) := by decide +kernel
theorem d12_16 : decode jdk_48_method_27_code 16 = .ok (.if_icmp .gt 5, 3) := by decide +kernel
theorem d12_19 : decode jdk_48_method_27_code 19 = .ok (.iload_n 3, 1) := by decide +kernel
theorem d12_20 : decode jdk_48_method_27_code 20 = .ok (.ireturn, 1) := by decide +kernel
theorem pn_jdk_internal_util_ArraysSupport : plainName "jdk/internal/util/ArraysSupport" = true := by first | (simp [plainName, overriddenIn]; done) | decide +kernel
def Q_rmNL (Z : State) (xo : Int32) (xg : Int32) (xp : Int32) (h0 : Heap) (n0 : Nat) (v : Option Value) (h : Heap) (L : List Loc) : Prop := ∃ (r1 : Int32), v = some (.int r1) ∧ Fr n0 L ∧ h = h0 ∧ (r1 = (xo + (if xg < xp then xp else xg)))
set_option maxRecDepth 65536 in
set_option maxHeartbeats 40000000 in
theorem rmNL (l : Launch) (Z : State) (a0 : Array Value) (hw : ∀ d ∈ tables_1, d.before a0 Z = true) (ws : List Jvm.Cond) (xo : Int32) (xg : Int32) (xp : Int32) (h0 : Heap) (n0 : Nat) (Z0 : n0 ≤ h0.size) (OLD : Old Z n0 h0) (hp : (0 : Int32) < (xo + (if xg < xp then xp else xg))) (hq : ¬ ((2147483639 : Int32) < (xo + (if xg < xp then xp else xg)))) :
    MetFree l (⟨"jdk/internal/util/ArraysSupport", "newLength", "(III)I"⟩ : MethodName) (head1 (Jvm.Cond.code (⟨"jdk/internal/util/ArraysSupport", "newLength", "(III)I"⟩ : MethodName) jdk_48_method_27_code 4 (some .int) :: ws) ({ frames := 1, cells := 0, slots := 0, locals := 14 } : Room)) (fun a U => a = #[(.int xo), (.int xg), (.int xp)] ∧ Z.Warmed39 U.vm ∧ U.heap = h0) (fun _ _ _ _ _ => True) (fun _ U o U' => ∃ v L, o = .returned v ∧ Q_rmNL Z xo xg xp h0 n0 v U'.heap L ∧ FrameEnd U o U' L ({ frames := 1, cells := 0, slots := 0, locals := 14 } : Room).cells ({ frames := 1, cells := 0, slots := 0, locals := 14 } : Room).slots) := by
  refine MetFree.of_bodySF (plainFor_of_name pn_jdk_internal_util_ArraysSupport) hisR ?_
  intro p e s m args below meth c s₁ Bd hml0 hP hK
  obtain ⟨rfl, hZ, hh⟩ := hP
  have hx := Bd.exec
  have hby := Bd.bytes
  have hml : c.maxLocals = 4 := hml0
  have hown : s.vm.findClass "jdk/internal/util/ArraysSupport" = some m.cls := findClass_of_methodNamed Bd.named
  have hnm := (name_of_methodNamed Bd.named Bd.method).1
  have X0 : Stand p l e ({ frames := 1, cells := 0, slots := 0, locals := 14 } : Room) s m #[(.int xo), (.int xg), (.int xp)] below meth c s₁ [] 0 0 := Stand.of_body Bd
  have e0 : s₁.heap = h0 := by rw [← hh, Bd.state]; rfl
  have N0 := Fr.nil n0
  have pre0 : ∀ t, Steps p.tables e below (s₁.setTop (mkF m 0 #[.val (.int xo), .val (.int xg), .val (.int xp), .unset] [])) t → Steps p.tables e below (s₁.setTop (entryFrame m #[(.int xo), (.int xg), (.int xp)] 4)) t := fun t k => castTop (ef_rmNL m xo xg xp) k
  have w_89 := hw _ (List.mem_of_getElem? (i := 89) rfl)
  have w_90 := hw _ (List.mem_of_getElem? (i := 90) rfl)
  have oz := OLD.1
  refine own_go (B := s₁.setTop (mkF m 0 #[.val (.int xo), .val (.int xg), .val (.int xp), .unset] [])) pre0 ?_
  show ∃ t o, Steps p.tables e below (s₁.setTop (mkF m 0 #[.val (.int xo), .val (.int xg), .val (.int xp), .unset] [])) t ∧ _
  refine own_go (fun _ => XS.iloadN X0.here hx rfl (hb hby d12_0) rfl) ?_
  refine own_go (fun _ => XS.iloadN X0.here hx rfl (hb hby d12_1) rfl) ?_
  refine own_go (fun _ => XS.iloadN X0.here hx rfl (hb hby d12_2) rfl) ?_
  show ∃ t o, Steps p.tables e below (s₁.setTop (mkF m 3 #[.val (.int xo), .val (.int xg), .val (.int xp), .unset] [(.int xp), (.int xg), (.int xo)])) t ∧ _
  obtain ⟨_, _, ⟨T1, L1, k1, n1⟩, -, X1, ⟨Lc1, hQ1, l1, y1, z1⟩, st1⟩ := Jvm.LawKit.callS X0 hx (y := (⟨"java/lang/Math", "max", "(II)I"⟩ : MethodName)) hown (mvT hZ (hw _ (List.mem_of_getElem? (i := 87) rfl))) (mvT hZ (hw _ (List.mem_of_getElem? (i := 88) rfl))) (mvT hZ w_89) (mvT hZ w_90) (by decide) (backOf (W := 1) (rmMax l Z a0 hw [] xg xp h0 n0 Z0 OLD) hZ w_90 w_89 (by decide) (by decide)) (g := (mkF m 3 #[.val (.int xo), .val (.int xg), .val (.int xp), .unset] [(.int xp), (.int xg), (.int xo)])) rfl (by rw [hml]; rfl) (argsL := [(.int xg), (.int xp)]) (rest := [(.int xo)]) (lenOf pd__28II_29I rfl) rfl (by show 2 * 0 + _ ≤ _; exact Nat.le_of_eq rfl) (hb hby d12_3) (fun _ _ => ⟨rfl, e0, (by decide : 0 + 0 ≤ _), (by decide : 0 + 0 ≤ _)⟩)
  dsimp only [Pt.U, Pt.locs, Pt.cells, Pt.slots] at X1 l1 y1 z1 st1 hQ1
  rw [l1, y1, z1] at X1
  obtain ⟨rfl, Nq1, e1⟩ := hQ1
  have N1 := Fr.app N0 Nq1
  refine own_go st1 ?_
  refine own_go (fun _ => XS.iadd X1.here hx rfl (hb hby d12_6) rfl) ?_
  refine own_go (fun _ => XS.istoreN X1.here hx rfl (hb hby d12_7) rfl (l' := #[.val (.int xo), .val (.int xg), .val (.int xp), .val (.int (xo + (if xg < xp then xp else xg)))]) rfl) ?_
  refine own_go (fun _ => XS.iconst X1.here hx rfl (hb hby d12_8)) ?_
  refine own_go (fun _ => XS.iloadN X1.here hx rfl (hb hby d12_9) rfl) ?_
  show ∃ t o, Steps p.tables e below (T1.setTop (mkF m 10 #[.val (.int xo), .val (.int xg), .val (.int xp), .val (.int (xo + (if xg < xp then xp else xg)))] [(.int (xo + (if xg < xp then xp else xg))), (.int (0 : Int32))])) t ∧ _
  refine own_go (fun _ => XS.icmpNo X1.here hx rfl (hb hby d12_10) rfl (tlt hp).2.1) ?_
  refine own_go (fun _ => XS.iloadN X1.here hx rfl (hb hby d12_13) rfl) ?_
  refine own_go (fun _ => X1.ldcInt hx hown (mvT hZ (hw _ (List.mem_of_getElem? (i := 91) rfl))) (g := (mkF m 14 #[.val (.int xo), .val (.int xg), .val (.int xp), .val (.int (xo + (if xg < xp then xp else xg)))] [(.int (xo + (if xg < xp then xp else xg)))])) rfl (hb hby d12_14) _) ?_
  show ∃ t o, Steps p.tables e below (T1.setTop (mkF m 16 #[.val (.int xo), .val (.int xg), .val (.int xp), .val (.int (xo + (if xg < xp then xp else xg)))] [(.int (2147483639 : Int32)), (.int (xo + (if xg < xp then xp else xg)))])) t ∧ _
  refine own_go (fun _ => XS.icmpNo X1.here hx rfl (hb hby d12_16) rfl (flt hq).2.2.1) ?_
  refine own_go (fun _ => XS.iloadN X1.here hx rfl (hb hby d12_19) rfl) ?_
  show ∃ t o, Steps p.tables e below (T1.setTop (mkF m 20 #[.val (.int xo), .val (.int xg), .val (.int xp), .val (.int (xo + (if xg < xp then xp else xg)))] [(.int (xo + (if xg < xp then xp else xg)))])) t ∧ _
  obtain ⟨fs, hr, hrun, hended, hW, hsame⟩ := X1.leave (v := some (.int (xo + (if xg < xp then xp else xg)))) (fun h => by rw [Bd.returns] at h; cases h)
  refine ⟨_, _, ?_, hrun, hended, _, _, rfl, ?_, ⟨_, rfl⟩, hW, hsame.mono (by decide) (by decide)⟩
  · exact retI X1 hx Bd.returns (hb hby d12_20) hr
  · show Q_rmNL Z _ _ _ h0 n0 _ T1.heap _
    rw [e1]
    exact ⟨(xo + (if xg < xp then xp else xg)), rfl, N1, rfl, rfl⟩
theorem ef_rmNC (m : MethodId) (x0 : Nat) (x1 : Int32) : entryFrame m #[(.ref x0), (.int x1)] 6 = mkF m 0 #[.val (.ref x0), .val (.int x1), .unset, .unset, .unset, .unset] [] := by first | (simp [entryFrame, mkF, argsToLocals, Value.category]; done) | rfl
theorem d11_0 : decode jdk_68_method_10_code 0 = .ok (.aload_n 0, 1) := by decide +kernel
theorem d11_1 : decode jdk_68_method_10_code 1 = .ok (.getfield 15, 3) := by decide +kernel
theorem d11_4 : decode jdk_68_method_10_code 4 = .ok (.arraylength, 1) := by decide +kernel
theorem d11_5 : decode jdk_68_method_10_code 5 = .ok (.istore_n 2, 1) := by decide +kernel
theorem d11_6 : decode jdk_68_method_10_code 6 = .ok (.iload_n 1, 1) := by decide +kernel
theorem d11_7 : decode jdk_68_method_10_code 7 = .ok (.aload_n 0, 1) := by decide +kernel
theorem d11_8 : decode jdk_68_method_10_code 8 = .ok (.getfield 22, 3) := by decide +kernel
theorem d11_11 : decode jdk_68_method_10_code 11 = .ok (.ishl, 1) := by decide +kernel
theorem d11_12 : decode jdk_68_method_10_code 12 = .ok (.istore_n 3, 1) := by decide +kernel
theorem d11_13 : decode jdk_68_method_10_code 13 = .ok (.iload_n 3, 1) := by decide +kernel
theorem d11_14 : decode jdk_68_method_10_code 14 = .ok (.iload_n 2, 1) := by decide +kernel
theorem d11_15 : decode jdk_68_method_10_code 15 = .ok (.isub, 1) := by decide +kernel
theorem d11_16 : decode jdk_68_method_10_code 16 = .ok (.istore 4, 2) := by decide +kernel
theorem d11_18 : decode jdk_68_method_10_code 18 = .ok (.iload_n 2, 1) := by decide +kernel
theorem d11_19 : decode jdk_68_method_10_code 19 = .ok (.iload 4, 2) := by decide +kernel
theorem d11_21 : decode jdk_68_method_10_code 21 = .ok (.iload_n 2, 1) := by decide +kernel
theorem d11_22 : decode jdk_68_method_10_code 22 = .ok (.iconst 2, 1) := by decide +kernel
theorem d11_23 : decode jdk_68_method_10_code 23 = .ok (.aload_n 0, 1) := by decide +kernel
theorem d11_24 : decode jdk_68_method_10_code 24 = .ok (.getfield 22, 3) := by decide +kernel
theorem d11_27 : decode jdk_68_method_10_code 27 = .ok (.ishl, 1) := by decide +kernel
theorem d11_28 : decode jdk_68_method_10_code 28 = .ok (.iadd, 1) := by decide +kernel
theorem d11_29 : decode jdk_68_method_10_code 29 = .ok (.invokestatic 114, 3) := by decide +kernel
theorem pd__28III_29I : parseMethodDescriptor "(III)I" = some ⟨[.int, .int, .int], some .int⟩ := by decide +kernel
theorem d11_32 : decode jdk_68_method_10_code 32 = .ok (.istore 5, 2) := by decide +kernel
theorem d11_34 : decode jdk_68_method_10_code 34 = .ok (.iload 5, 2) := by decide +kernel
theorem d11_36 : decode jdk_68_method_10_code 36 = .ok (.ldc 39, 2) := by decide +kernel
theorem d11_38 : decode jdk_68_method_10_code 38 = .ok (.if_icmp .ne 13, 3) := by decide +kernel
theorem d11_51 : decode jdk_68_method_10_code 51 = .ok (.iload 5, 2) := by decide +kernel
theorem d11_53 : decode jdk_68_method_10_code 53 = .ok (.aload_n 0, 1) := by decide +kernel
theorem d11_54 : decode jdk_68_method_10_code 54 = .ok (.getfield 22, 3) := by decide +kernel
theorem d11_57 : decode jdk_68_method_10_code 57 = .ok (.ishr, 1) := by decide +kernel
theorem d11_58 : decode jdk_68_method_10_code 58 = .ok (.ireturn, 1) := by decide +kernel
def Q_rmNC (Z : State) (sb : Nat) (vb : Nat) (kv : ClassId) (cp : Int32) (us : List Value) (mn : Int32) (h0 : Heap) (n0 : Nat) (v : Option Value) (h : Heap) (L : List Loc) : Prop := ∃ (r2 : Int32), v = some (.int r2) ∧ Fr n0 L ∧ h = h0 ∧ (mn.toInt ≤ r2.toInt ∧ r2.toInt = 2 * cp.toInt + 2)
set_option maxRecDepth 65536 in
set_option maxHeartbeats 40000000 in
theorem rmNC (l : Launch) (Z : State) (a0 : Array Value) (hw : ∀ d ∈ tables_1, d.before a0 Z = true) (ws : List Jvm.Cond) (sb : Nat) (vb : Nat) (kv : ClassId) (cp : Int32) (us : List Value) (mn : Int32) (h0 : Heap) (n0 : Nat) (Z0 : n0 ≤ h0.size) (P1 : Fld Z h0 sb "java/lang/AbstractStringBuilder" "value" "[B" (.ref vb)) (P2 : Fld Z h0 sb "java/lang/AbstractStringBuilder" "coder" "B" (.int (0 : Int32))) (P3 : Arv Z h0 vb kv .byte cp us (.int (0 : Int32))) (OLD : Old Z n0 h0) (hm : own_mn mn cp) (hcp : own_cap us cp) (hq : (0 : Int32) < (mn - cp)) :
    MetFree l (⟨"java/lang/AbstractStringBuilder", "newCapacity", "(I)I"⟩ : MethodName) (head1 (Jvm.Cond.code (⟨"java/lang/AbstractStringBuilder", "newCapacity", "(I)I"⟩ : MethodName) jdk_68_method_10_code 6 (some .int) :: ws) ({ frames := 2, cells := 0, slots := 0, locals := 29 } : Room)) (fun a U => a = #[(.ref sb), (.int mn)] ∧ Z.Warmed39 U.vm ∧ U.heap = h0) (fun _ _ _ _ _ => True) (fun _ U o U' => ∃ v L, o = .returned v ∧ Q_rmNC Z sb vb kv cp us mn h0 n0 v U'.heap L ∧ FrameEnd U o U' L ({ frames := 2, cells := 0, slots := 0, locals := 29 } : Room).cells ({ frames := 2, cells := 0, slots := 0, locals := 29 } : Room).slots) := by
  refine MetFree.of_bodySF (plainFor_of_name pn_java_lang_AbstractStringBuilder) hisR ?_
  intro p e s m args below meth c s₁ Bd hml0 hP hK
  obtain ⟨rfl, hZ, hh⟩ := hP
  have hx := Bd.exec
  have hby := Bd.bytes
  have hml : c.maxLocals = 6 := hml0
  have hown : s.vm.findClass "java/lang/AbstractStringBuilder" = some m.cls := findClass_of_methodNamed Bd.named
  have hnm := (name_of_methodNamed Bd.named Bd.method).1
  have X0 : Stand p l e ({ frames := 2, cells := 0, slots := 0, locals := 29 } : Room) s m #[(.ref sb), (.int mn)] below meth c s₁ [] 0 0 := Stand.of_body Bd
  have e0 : s₁.heap = h0 := by rw [← hh, Bd.state]; rfl
  have N0 := Fr.nil n0
  have pre0 : ∀ t, Steps p.tables e below (s₁.setTop (mkF m 0 #[.val (.ref sb), .val (.int mn), .unset, .unset, .unset, .unset] [])) t → Steps p.tables e below (s₁.setTop (entryFrame m #[(.ref sb), (.int mn)] 6)) t := fun t k => castTop (ef_rmNC m sb mn) k
  have w_40 := hw _ (List.mem_of_getElem? (i := 40) rfl)
  have w_85 := hw _ (List.mem_of_getElem? (i := 85) rfl)
  have w_86 := hw _ (List.mem_of_getElem? (i := 86) rfl)
  have oz := OLD.1
  have lt_sb : sb < h0.size := P1.lt
  have lt_vb : vb < h0.size := P3.lt
  refine own_go (B := s₁.setTop (mkF m 0 #[.val (.ref sb), .val (.int mn), .unset, .unset, .unset, .unset] [])) pre0 ?_
  show ∃ t o, Steps p.tables e below (s₁.setTop (mkF m 0 #[.val (.ref sb), .val (.int mn), .unset, .unset, .unset, .unset] [])) t ∧ _
  refine own_go (fun _ => XS.aloadN X0.here hx rfl (hb hby d11_0) rfl rfl) ?_
  obtain ⟨T4, X4, e4, st4⟩ := getF X0 hx hZ hown (host := "") (Or.inl (hw _ (List.mem_of_getElem? (i := 38) rfl))) Via.refl e0 P1 (g := (mkF m 1 #[.val (.ref sb), .val (.int mn), .unset, .unset, .unset, .unset] [(.ref sb)])) rfl rfl (hb hby d11_1)
  refine own_go st4 ?_
  obtain ⟨cl5, Ar5, q5, S5, N5, H5, G5⟩ := id P3
  have ln5 : cl5.slots.size.toInt32 = cp := len_of S5 N5
  have al5 := X4.arraylength hx (by rw [e4]; exact Ar5.1) (State.isArrayOf_alike hZ.alike Ar5.2.1) (g := (mkF m 4 #[.val (.ref sb), .val (.int mn), .unset, .unset, .unset, .unset] [(.ref vb)])) rfl rfl (hb hby d11_4)
  rw [ln5] at al5
  refine own_go al5 ?_
  refine own_go (fun _ => XS.istoreN X4.here hx rfl (hb hby d11_5) rfl (l' := #[.val (.ref sb), .val (.int mn), .val (.int cp), .unset, .unset, .unset]) rfl) ?_
  refine own_go (fun _ => XS.iloadN X4.here hx rfl (hb hby d11_6) rfl) ?_
  refine own_go (fun _ => XS.aloadN X4.here hx rfl (hb hby d11_7) rfl rfl) ?_
  obtain ⟨T6, X6, e6, st6⟩ := getF X4 hx hZ hown (host := "") (Or.inl w_40) Via.refl e4 P2 (g := (mkF m 8 #[.val (.ref sb), .val (.int mn), .val (.int cp), .unset, .unset, .unset] [(.ref sb), (.int mn)])) rfl rfl (hb hby d11_8)
  refine own_go st6 ?_
  refine own_go (fun _ => XS.ishl X6.here hx rfl (hb hby d11_11) rfl) ?_
  show ∃ t o, Steps p.tables e below (T6.setTop (mkF m 12 #[.val (.ref sb), .val (.int mn), .val (.int cp), .unset, .unset, .unset] [(.int (mn <<< ((0 : Int32) &&& 31)))])) t ∧ _
  rw [own_shl0]
  show ∃ t o, Steps p.tables e below (T6.setTop (mkF m 12 #[.val (.ref sb), .val (.int mn), .val (.int cp), .unset, .unset, .unset] [(.int mn)])) t ∧ _
  refine own_go (fun _ => XS.istoreN X6.here hx rfl (hb hby d11_12) rfl (l' := #[.val (.ref sb), .val (.int mn), .val (.int cp), .val (.int mn), .unset, .unset]) rfl) ?_
  refine own_go (fun _ => XS.iloadN X6.here hx rfl (hb hby d11_13) rfl) ?_
  refine own_go (fun _ => XS.iloadN X6.here hx rfl (hb hby d11_14) rfl) ?_
  refine own_go (fun _ => XS.isub X6.here hx rfl (hb hby d11_15) rfl) ?_
  refine own_go (fun _ => XS.istore X6.here hx rfl (hb hby d11_16) rfl (l' := #[.val (.ref sb), .val (.int mn), .val (.int cp), .val (.int mn), .val (.int (mn - cp)), .unset]) rfl) ?_
  refine own_go (fun _ => XS.iloadN X6.here hx rfl (hb hby d11_18) rfl) ?_
  refine own_go (fun _ => XS.iload X6.here hx rfl (hb hby d11_19) rfl) ?_
  refine own_go (fun _ => XS.iloadN X6.here hx rfl (hb hby d11_21) rfl) ?_
  refine own_go (fun _ => XS.iconst X6.here hx rfl (hb hby d11_22)) ?_
  refine own_go (fun _ => XS.aloadN X6.here hx rfl (hb hby d11_23) rfl rfl) ?_
  show ∃ t o, Steps p.tables e below (T6.setTop (mkF m 24 #[.val (.ref sb), .val (.int mn), .val (.int cp), .val (.int mn), .val (.int (mn - cp)), .unset] [(.ref sb), (.int (2 : Int32)), (.int cp), (.int (mn - cp)), (.int cp)])) t ∧ _
  obtain ⟨T7, X7, e7, st7⟩ := getF X6 hx hZ hown (host := "") (Or.inl w_40) Via.refl e6 P2 (g := (mkF m 24 #[.val (.ref sb), .val (.int mn), .val (.int cp), .val (.int mn), .val (.int (mn - cp)), .unset] [(.ref sb), (.int (2 : Int32)), (.int cp), (.int (mn - cp)), (.int cp)])) rfl rfl (hb hby d11_24)
  refine own_go st7 ?_
  refine own_go (fun _ => XS.ishl X7.here hx rfl (hb hby d11_27) rfl) ?_
  refine own_go (fun _ => XS.iadd X7.here hx rfl (hb hby d11_28) rfl) ?_
  show ∃ t o, Steps p.tables e below (T7.setTop (mkF m 29 #[.val (.ref sb), .val (.int mn), .val (.int cp), .val (.int mn), .val (.int (mn - cp)), .unset] [(.int (cp + (2 : Int32))), (.int (mn - cp)), (.int cp)])) t ∧ _
  obtain ⟨_, _, ⟨T8, L8, k8, n8⟩, -, X8, ⟨Lc8, hQ8, l8, y8, z8⟩, st8⟩ := Jvm.LawKit.callS X7 hx (y := (⟨"jdk/internal/util/ArraysSupport", "newLength", "(III)I"⟩ : MethodName)) hown (mvT hZ (hw _ (List.mem_of_getElem? (i := 83) rfl))) (mvT hZ (hw _ (List.mem_of_getElem? (i := 84) rfl))) (mvT hZ w_85) (mvT hZ w_86) (by decide) (backOf (W := 0) (rmNL l Z a0 hw [] cp (mn - cp) ((cp + (2 : Int32))) h0 n0 Z0 OLD ((own_pos hm hcp hq (own_nl hm hcp hq rfl)).1 : (0 : Int32) < (cp + (if (mn - cp) < (cp + (2 : Int32)) then (cp + (2 : Int32)) else (mn - cp)))) ((own_pos hm hcp hq (own_nl hm hcp hq rfl)).2.1 : ¬ ((2147483639 : Int32) < (cp + (if (mn - cp) < (cp + (2 : Int32)) then (cp + (2 : Int32)) else (mn - cp)))))) hZ w_86 w_85 (by decide) (by decide)) (g := (mkF m 29 #[.val (.ref sb), .val (.int mn), .val (.int cp), .val (.int mn), .val (.int (mn - cp)), .unset] [(.int (cp + (2 : Int32))), (.int (mn - cp)), (.int cp)])) rfl (by rw [hml]; rfl) (argsL := [(.int cp), (.int (mn - cp)), (.int (cp + (2 : Int32)))]) (rest := []) (lenOf pd__28III_29I rfl) rfl (by show 2 * 0 + _ ≤ _; exact Nat.le_of_eq rfl) (hb hby d11_29) (fun _ _ => ⟨rfl, e7, (by decide : 0 + 0 ≤ _), (by decide : 0 + 0 ≤ _)⟩)
  dsimp only [Pt.U, Pt.locs, Pt.cells, Pt.slots] at X8 l8 y8 z8 st8 hQ8
  rw [l8, y8, z8] at X8
  obtain ⟨r1_8, rfl, Nq8, e8, H8_0⟩ := hQ8
  have N8 := Fr.app N0 Nq8
  refine own_go st8 ?_
  refine own_go (fun _ => XS.istore X8.here hx rfl (hb hby d11_32) rfl (l' := #[.val (.ref sb), .val (.int mn), .val (.int cp), .val (.int mn), .val (.int (mn - cp)), .val (.int r1_8)]) rfl) ?_
  refine own_go (fun _ => XS.iload X8.here hx rfl (hb hby d11_34) rfl) ?_
  refine own_go (fun _ => X8.ldcInt hx hown (mvT hZ (hw _ (List.mem_of_getElem? (i := 92) rfl))) (g := (mkF m 36 #[.val (.ref sb), .val (.int mn), .val (.int cp), .val (.int mn), .val (.int (mn - cp)), .val (.int r1_8)] [(.int r1_8)])) rfl (hb hby d11_36) _) ?_
  show ∃ t o, Steps p.tables e below (T8.setTop (mkF m 38 #[.val (.ref sb), .val (.int mn), .val (.int cp), .val (.int mn), .val (.int (mn - cp)), .val (.int r1_8)] [(.int (2147483647 : Int32)), (.int r1_8)])) t ∧ _
  have hd9 : ¬ (r1_8 = (2147483647 : Int32)) := (own_pos hm hcp hq (own_nl hm hcp hq H8_0)).2.2.1
  refine own_go (fun _ => XS.icmpYes X8.here hx rfl (pc0 := 38) (pc' := 51) rfl (hb hby d11_38) rfl (feq hd9).2 (by decide) (by decide)) ?_
  refine own_go (fun _ => XS.iload X8.here hx rfl (hb hby d11_51) rfl) ?_
  refine own_go (fun _ => XS.aloadN X8.here hx rfl (hb hby d11_53) rfl rfl) ?_
  obtain ⟨T10, X10, e10, st10⟩ := getF X8 hx hZ hown (host := "") (Or.inl w_40) Via.refl e8 P2 (g := (mkF m 54 #[.val (.ref sb), .val (.int mn), .val (.int cp), .val (.int mn), .val (.int (mn - cp)), .val (.int r1_8)] [(.ref sb), (.int r1_8)])) rfl rfl (hb hby d11_54)
  refine own_go st10 ?_
  refine own_go (fun _ => XS.ishr X10.here hx rfl (hb hby d11_57) rfl) ?_
  show ∃ t o, Steps p.tables e below (T10.setTop (mkF m 58 #[.val (.ref sb), .val (.int mn), .val (.int cp), .val (.int mn), .val (.int (mn - cp)), .val (.int r1_8)] [(.int (r1_8 >>> ((0 : Int32) &&& 31)))])) t ∧ _
  rw [own_shr0]
  show ∃ t o, Steps p.tables e below (T10.setTop (mkF m 58 #[.val (.ref sb), .val (.int mn), .val (.int cp), .val (.int mn), .val (.int (mn - cp)), .val (.int r1_8)] [(.int r1_8)])) t ∧ _
  obtain ⟨fs, hr, hrun, hended, hW, hsame⟩ := X10.leave (v := some (.int r1_8)) (fun h => by rw [Bd.returns] at h; cases h)
  refine ⟨_, _, ?_, hrun, hended, _, _, rfl, ?_, ⟨_, rfl⟩, hW, hsame.mono (by decide) (by decide)⟩
  · exact retI X10 hx Bd.returns (hb hby d11_58) hr
  · show Q_rmNC Z _ _ _ _ _ _ h0 n0 _ T10.heap _
    rw [e10]
    exact ⟨r1_8, rfl, N8, rfl, (own_nl hm hcp hq H8_0)⟩
theorem ef_rmCpo (m : MethodId) (x0 : Nat) (x1 : Int32) : entryFrame m #[(.ref x0), (.int x1)] 3 = mkF m 0 #[.val (.ref x0), .val (.int x1), .unset] [] := by first | (simp [entryFrame, mkF, argsToLocals, Value.category]; done) | rfl
theorem d14_0 : decode jdk_65_method_121_code 0 = .ok (.iload_n 1, 1) := by decide +kernel
theorem d14_1 : decode jdk_65_method_121_code 1 = .ok (.aload_n 0, 1) := by decide +kernel
theorem d14_2 : decode jdk_65_method_121_code 2 = .ok (.arraylength, 1) := by decide +kernel
theorem d14_3 : decode jdk_65_method_121_code 3 = .ok (.if_icmp .ne 11, 3) := by decide +kernel
theorem d14_14 : decode jdk_65_method_121_code 14 = .ok (.iload_n 1, 1) := by decide +kernel
theorem d14_15 : decode jdk_65_method_121_code 15 = .ok (.newarray .byte, 2) := by decide +kernel
theorem d14_17 : decode jdk_65_method_121_code 17 = .ok (.astore_n 2, 1) := by decide +kernel
theorem d14_18 : decode jdk_65_method_121_code 18 = .ok (.aload_n 0, 1) := by decide +kernel
theorem d14_19 : decode jdk_65_method_121_code 19 = .ok (.iconst 0, 1) := by decide +kernel
theorem d14_20 : decode jdk_65_method_121_code 20 = .ok (.aload_n 2, 1) := by decide +kernel
theorem d14_21 : decode jdk_65_method_121_code 21 = .ok (.iconst 0, 1) := by decide +kernel
theorem d14_22 : decode jdk_65_method_121_code 22 = .ok (.aload_n 0, 1) := by decide +kernel
theorem d14_23 : decode jdk_65_method_121_code 23 = .ok (.arraylength, 1) := by decide +kernel
theorem d14_24 : decode jdk_65_method_121_code 24 = .ok (.iload_n 1, 1) := by decide +kernel
theorem d14_25 : decode jdk_65_method_121_code 25 = .ok (.invokestatic 304, 3) := by decide +kernel
theorem d14_28 : decode jdk_65_method_121_code 28 = .ok (.invokestatic 150, 3) := by decide +kernel
theorem d14_31 : decode jdk_65_method_121_code 31 = .ok (.aload_n 2, 1) := by decide +kernel
theorem d14_32 : decode jdk_65_method_121_code 32 = .ok (.areturn, 1) := by decide +kernel
theorem pn_java_util_Arrays : plainName "java/util/Arrays" = true := by first | (simp [plainName, overriddenIn]; done) | decide +kernel
def Q_rmCpo (Z : State) (vb : Nat) (kv : ClassId) (cp : Int32) (us : List Value) (r2 : Int32) (h0 : Heap) (n0 : Nat) (v : Option Value) (h : Heap) (L : List Loc) : Prop := ∃ (nb : Nat), ∃ (kn : ClassId), v = some (.ref nb) ∧ Fr n0 L ∧ Keep h0 h [] ∧ Exa Z h nb "[B" ∧ Arv Z h nb kn .byte r2 us (.int (0 : Int32)) ∧ (h0.size ≤ nb)
set_option maxRecDepth 65536 in
set_option maxHeartbeats 40000000 in
theorem rmCpo (l : Launch) (Z : State) (a0 : Array Value) (hw : ∀ d ∈ tables_1, d.before a0 Z = true) (ws : List Jvm.Cond) (vb : Nat) (kv : ClassId) (cp : Int32) (us : List Value) (r2 : Int32) (h0 : Heap) (n0 : Nat) (Z0 : n0 ≤ h0.size) (P1 : Arv Z h0 vb kv .byte cp us (.int (0 : Int32))) (OLD : Old Z n0 h0) (hnc : ¬ (r2 = cp)) (hlt : ¬ (r2 < cp)) (hnn : ¬ (r2 < (0 : Int32))) (h250 : r2.toNatClampNeg ≤ 142) (hle : cp.toNatClampNeg ≤ r2.toNatClampNeg) (hcp : own_cap us cp) :
    MetFree l (⟨"java/util/Arrays", "copyOf", "([BI)[B"⟩ : MethodName) (head1 (Jvm.Cond.code (⟨"java/util/Arrays", "copyOf", "([BI)[B"⟩ : MethodName) jdk_65_method_121_code 3 (some (.array .byte)) :: ws) ({ frames := 1, cells := 1, slots := 142, locals := 18 } : Room)) (fun a U => a = #[(.ref vb), (.int r2)] ∧ Z.Warmed39 U.vm ∧ U.heap = h0) (fun _ _ _ _ _ => True) (fun _ U o U' => ∃ v L, o = .returned v ∧ Q_rmCpo Z vb kv cp us r2 h0 n0 v U'.heap L ∧ FrameEnd U o U' L ({ frames := 1, cells := 1, slots := 142, locals := 18 } : Room).cells ({ frames := 1, cells := 1, slots := 142, locals := 18 } : Room).slots) := by
  refine MetFree.of_bodySF (plainFor_of_name pn_java_util_Arrays) hisR ?_
  intro p e s m args below meth c s₁ Bd hml0 hP hK
  obtain ⟨rfl, hZ, hh⟩ := hP
  have hx := Bd.exec
  have hby := Bd.bytes
  have hml : c.maxLocals = 3 := hml0
  have hown : s.vm.findClass "java/util/Arrays" = some m.cls := findClass_of_methodNamed Bd.named
  have hnm := (name_of_methodNamed Bd.named Bd.method).1
  have X0 : Stand p l e ({ frames := 1, cells := 1, slots := 142, locals := 18 } : Room) s m #[(.ref vb), (.int r2)] below meth c s₁ [] 0 0 := Stand.of_body Bd
  have e0 : s₁.heap = h0 := by rw [← hh, Bd.state]; rfl
  have N0 := Fr.nil n0
  have pre0 : ∀ t, Steps p.tables e below (s₁.setTop (mkF m 0 #[.val (.ref vb), .val (.int r2), .unset] [])) t → Steps p.tables e below (s₁.setTop (entryFrame m #[(.ref vb), (.int r2)] 3)) t := fun t k => castTop (ef_rmCpo m vb r2) k
  have w_89 := hw _ (List.mem_of_getElem? (i := 89) rfl)
  have w_99 := hw _ (List.mem_of_getElem? (i := 99) rfl)
  have oz := OLD.1
  have lt_vb : vb < h0.size := P1.lt
  refine own_go (B := s₁.setTop (mkF m 0 #[.val (.ref vb), .val (.int r2), .unset] [])) pre0 ?_
  show ∃ t o, Steps p.tables e below (s₁.setTop (mkF m 0 #[.val (.ref vb), .val (.int r2), .unset] [])) t ∧ _
  refine own_go (fun _ => XS.iloadN X0.here hx rfl (hb hby d14_0) rfl) ?_
  refine own_go (fun _ => XS.aloadN X0.here hx rfl (hb hby d14_1) rfl rfl) ?_
  obtain ⟨cl2, Ar2, q2, S2, N2, H2, G2⟩ := id P1
  have ln2 : cl2.slots.size.toInt32 = cp := len_of S2 N2
  have al2 := X0.arraylength hx (by rw [e0]; exact Ar2.1) (State.isArrayOf_alike hZ.alike Ar2.2.1) (g := (mkF m 2 #[.val (.ref vb), .val (.int r2), .unset] [(.ref vb), (.int r2)])) rfl rfl (hb hby d14_2)
  rw [ln2] at al2
  refine own_go al2 ?_
  show ∃ t o, Steps p.tables e below (s₁.setTop (mkF m 3 #[.val (.ref vb), .val (.int r2), .unset] [(.int cp), (.int r2)])) t ∧ _
  refine own_go (fun _ => XS.icmpYes X0.here hx rfl (pc0 := 3) (pc' := 14) rfl (hb hby d14_3) rfl (feq hnc).2 (by decide) (by decide)) ?_
  refine own_go (fun _ => XS.iloadN X0.here hx rfl (hb hby d14_14) rfl) ?_
  show ∃ t o, Steps p.tables e below (s₁.setTop (mkF m 15 #[.val (.ref vb), .val (.int r2), .unset] [(.int r2)])) t ∧ _
  obtain ⟨T3, h3, k3, X3, e3, E3, A3, Q3, st3⟩ := newPE (aty := .byte) X0 hx hZ (hw _ (List.mem_of_getElem? (i := 37) rfl)) e0 (g := (mkF m 15 #[.val (.ref vb), .val (.int r2), .unset] [(.int r2)])) rfl (hb hby d14_15) rfl hnn (cap := 142) h250 (by decide) (by decide) (by decide) (ad := "[B") rfl
  obtain ⟨b3, g3⟩ : ∃ z, z = h0.size := ⟨_, rfl⟩
  rw [← g3] at A3 Q3 st3
  refine own_go st3 ?_
  have le_3 : h0.size ≤ h3.size := E3.1
  have lt_b3 : b3 < h3.size := A3.lt
  have V_b3 : Arv Z h3 b3 k3 .byte r2 [] (.int (0 : Int32)) := Arv.new A3 hnn
  have K3 : Keep h0 h3 [] := Keep.ext (Keep.refl h0 []) E3
  refine own_go (fun _ => XS.astoreN X3.here hx rfl (hb hby d14_17) rfl rfl (l' := #[.val (.ref vb), .val (.int r2), .val (.ref b3)]) rfl) ?_
  refine own_go (fun _ => XS.aloadN X3.here hx rfl (hb hby d14_18) rfl rfl) ?_
  refine own_go (fun _ => XS.iconst X3.here hx rfl (hb hby d14_19)) ?_
  refine own_go (fun _ => XS.aloadN X3.here hx rfl (hb hby d14_20) rfl rfl) ?_
  refine own_go (fun _ => XS.iconst X3.here hx rfl (hb hby d14_21)) ?_
  refine own_go (fun _ => XS.aloadN X3.here hx rfl (hb hby d14_22) rfl rfl) ?_
  have F4 := (P1.ext E3)
  obtain ⟨cl5, Ar5, q5, S5, N5, H5, G5⟩ := id F4
  have ln5 : cl5.slots.size.toInt32 = cp := len_of S5 N5
  have al5 := X3.arraylength hx (by rw [e3]; exact Ar5.1) (State.isArrayOf_alike hZ.alike Ar5.2.1) (g := (mkF m 23 #[.val (.ref vb), .val (.int r2), .val (.ref b3)] [(.ref vb), (.int (0 : Int32)), (.ref b3), (.int (0 : Int32)), (.ref vb)])) rfl rfl (hb hby d14_23)
  rw [ln5] at al5
  refine own_go al5 ?_
  refine own_go (fun _ => XS.iloadN X3.here hx rfl (hb hby d14_24) rfl) ?_
  show ∃ t o, Steps p.tables e below (T3.setTop (mkF m 25 #[.val (.ref vb), .val (.int r2), .val (.ref b3)] [(.int r2), (.int cp), (.int (0 : Int32)), (.ref b3), (.int (0 : Int32)), (.ref vb)])) t ∧ _
  have F6 := (OLD.ext E3)
  have zl7 : n0 ≤ h3.size := by omega
  obtain ⟨_, _, ⟨T8, L8, k8, n8⟩, -, X8, ⟨Lc8, hQ8, l8, y8, z8⟩, st8⟩ := Jvm.LawKit.callS X3 hx (y := (⟨"java/lang/Math", "min", "(II)I"⟩ : MethodName)) hown (mvT hZ (hw _ (List.mem_of_getElem? (i := 97) rfl))) (mvT hZ (hw _ (List.mem_of_getElem? (i := 98) rfl))) (mvT hZ w_89) (mvT hZ w_99) (by decide) (backOf (W := 4) (rmMinA l Z a0 hw [] cp r2 h3 n0 zl7 F6 hlt) hZ w_99 w_89 (by decide) (by decide)) (g := (mkF m 25 #[.val (.ref vb), .val (.int r2), .val (.ref b3)] [(.int r2), (.int cp), (.int (0 : Int32)), (.ref b3), (.int (0 : Int32)), (.ref vb)])) rfl (by rw [hml]; rfl) (argsL := [(.int cp), (.int r2)]) (rest := [(.int (0 : Int32)), (.ref b3), (.int (0 : Int32)), (.ref vb)]) (lenOf pd__28II_29I rfl) rfl (by show 2 * 0 + _ ≤ _; exact Nat.le_of_eq rfl) (hb hby d14_25) (fun _ _ => ⟨rfl, e3, (by decide : 1 + 0 ≤ _), (by decide : 142 + 0 ≤ _)⟩)
  dsimp only [Pt.U, Pt.locs, Pt.cells, Pt.slots] at X8 l8 y8 z8 st8 hQ8
  rw [l8, y8, z8] at X8
  obtain ⟨rfl, Nq8, e8⟩ := hQ8
  have N8 := Fr.app N0 Nq8
  refine own_go st8 ?_
  show ∃ t o, Steps p.tables e below (T8.setTop (mkF m 28 #[.val (.ref vb), .val (.int r2), .val (.ref b3)] [(.int cp), (.int (0 : Int32)), (.ref b3), (.int (0 : Int32)), (.ref vb)])) t ∧ _
  have ge9 : n0 ≤ b3 := by omega
  obtain ⟨T10, h10, L10, X10, e10, N10, Kp10, V10, st10⟩ := own_cp0 X8 hx hZ hown (hw _ (List.mem_of_getElem? (i := 100) rfl)) (hw _ (List.mem_of_getElem? (i := 103) rfl)) (hw _ (List.mem_of_getElem? (i := 101) rfl)) (hw _ (List.mem_of_getElem? (i := 102) rfl)) e8 F4 V_b3 (own_cap.le hcp) (own_cap.nn hcp) (Nat.le_refl _) hle N8 ge9 (g := (mkF m 28 #[.val (.ref vb), .val (.int r2), .val (.ref b3)] [(.int cp), (.int (0 : Int32)), (.ref b3), (.int (0 : Int32)), (.ref vb)])) rfl (by rw [hml]; rfl) rfl (hb hby d14_28) (by decide) (W := 0) (by show 2 * 0 + _ ≤ _; exact Nat.le_of_eq rfl) (by decide +kernel)
  refine own_go st10 ?_
  have le_10 : h3.size ≤ h10.size := Kp10.1
  have sz11 : h0.size ≤ b3 := by omega
  have K10 : Keep h0 h10 [] := Keep.trans K3 Kp10 (allS (Or.inr sz11) all0)
  refine own_go (fun _ => XS.aloadN X10.here hx rfl (hb hby d14_31) rfl rfl) ?_
  show ∃ t o, Steps p.tables e below (T10.setTop (mkF m 32 #[.val (.ref vb), .val (.int r2), .val (.ref b3)] [(.ref b3)])) t ∧ _
  have F12 := (Exa.keep Q3 Kp10)
  obtain ⟨fs, hr, hrun, hended, hW, hsame⟩ := X10.leave (v := some (.ref b3)) (fun h => by rw [Bd.returns] at h; cases h)
  refine ⟨_, _, ?_, hrun, hended, _, _, rfl, ?_, ⟨_, rfl⟩, hW, hsame.mono (by decide) (by decide)⟩
  · jvm_step X10.here [X10.here.top, hx, (hb hby d14_32), X10.method', Bd.returns, Value.isRef, FieldType.isReference]
    first | (intro acts; rw [hr _ acts rfl rfl rfl]) | rw [hr _ _ rfl rfl rfl]
    exact Steps.refl _
  · show Q_rmCpo Z _ _ _ _ _ h0 n0 _ T10.heap _
    rw [e10]
    exact ⟨b3, k3, rfl, N10, K10, F12, V10, (by omega)⟩
theorem ef_rmEns (m : MethodId) (x0 : Nat) (x1 : Int32) : entryFrame m #[(.ref x0), (.int x1)] 3 = mkF m 0 #[.val (.ref x0), .val (.int x1), .unset] [] := by first | (simp [entryFrame, mkF, argsToLocals, Value.category]; done) | rfl
theorem d10_0 : decode jdk_68_method_9_code 0 = .ok (.aload_n 0, 1) := by decide +kernel
theorem d10_1 : decode jdk_68_method_9_code 1 = .ok (.getfield 15, 3) := by decide +kernel
theorem d10_4 : decode jdk_68_method_9_code 4 = .ok (.arraylength, 1) := by decide +kernel
theorem d10_5 : decode jdk_68_method_9_code 5 = .ok (.aload_n 0, 1) := by decide +kernel
theorem d10_6 : decode jdk_68_method_9_code 6 = .ok (.getfield 22, 3) := by decide +kernel
theorem d10_9 : decode jdk_68_method_9_code 9 = .ok (.ishr, 1) := by decide +kernel
theorem d10_10 : decode jdk_68_method_9_code 10 = .ok (.istore_n 2, 1) := by decide +kernel
theorem d10_11 : decode jdk_68_method_9_code 11 = .ok (.iload_n 1, 1) := by decide +kernel
theorem d10_12 : decode jdk_68_method_9_code 12 = .ok (.iload_n 2, 1) := by decide +kernel
theorem d10_13 : decode jdk_68_method_9_code 13 = .ok (.isub, 1) := by decide +kernel
theorem d10_14 : decode jdk_68_method_9_code 14 = .ok (.ifCond .le 24, 3) := by decide +kernel
theorem d10_17 : decode jdk_68_method_9_code 17 = .ok (.aload_n 0, 1) := by decide +kernel
theorem d10_18 : decode jdk_68_method_9_code 18 = .ok (.aload_n 0, 1) := by decide +kernel
theorem d10_19 : decode jdk_68_method_9_code 19 = .ok (.getfield 15, 3) := by decide +kernel
theorem d10_22 : decode jdk_68_method_9_code 22 = .ok (.aload_n 0, 1) := by decide +kernel
theorem d10_23 : decode jdk_68_method_9_code 23 = .ok (.iload_n 1, 1) := by decide +kernel
theorem d10_24 : decode jdk_68_method_9_code 24 = .ok (.invokevirtual 104, 3) := by decide +kernel
theorem pd__28I_29I : parseMethodDescriptor "(I)I" = some ⟨[.int], some .int⟩ := by decide +kernel
theorem d10_27 : decode jdk_68_method_9_code 27 = .ok (.aload_n 0, 1) := by decide +kernel
theorem d10_28 : decode jdk_68_method_9_code 28 = .ok (.getfield 22, 3) := by decide +kernel
theorem d10_31 : decode jdk_68_method_9_code 31 = .ok (.ishl, 1) := by decide +kernel
theorem d10_32 : decode jdk_68_method_9_code 32 = .ok (.invokestatic 108, 3) := by decide +kernel
theorem pd__28_5bBI_29_5bB : parseMethodDescriptor "([BI)[B" = some ⟨[(.array .byte), .int], some (.array .byte)⟩ := by decide +kernel
theorem d10_35 : decode jdk_68_method_9_code 35 = .ok (.putfield 15, 3) := by decide +kernel
theorem d10_38 : decode jdk_68_method_9_code 38 = .ok (.return_, 1) := by decide +kernel
def Q_rmEns (Z : State) (sb : Nat) (vb : Nat) (kv : ClassId) (cp : Int32) (us : List Value) (cn : Int32) (mn : Int32) (h0 : Heap) (n0 : Nat) (v : Option Value) (h : Heap) (L : List Loc) : Prop := ∃ (vb2 : Nat), ∃ (kv2 : ClassId), ∃ (cp2 : Int32), v = none ∧ Fr n0 L ∧ Keep h0 h [sb] ∧ Exa Z h sb "java/lang/StringBuilder" ∧ Fld Z h sb "java/lang/AbstractStringBuilder" "value" "[B" (.ref vb2) ∧ Fld Z h sb "java/lang/AbstractStringBuilder" "coder" "B" (.int (0 : Int32)) ∧ Fld Z h sb "java/lang/AbstractStringBuilder" "count" "I" (.int cn) ∧ Exa Z h vb2 "[B" ∧ Arv Z h vb2 kv2 .byte cp2 us (.int (0 : Int32)) ∧ (own_cap us cp2) ∧ (mn.toInt ≤ cp2.toInt) ∧ (vb2 = vb ∨ h0.size ≤ vb2) ∧ (sb ≠ vb2) ∧ (n0 ≤ vb2)
set_option maxRecDepth 65536 in
set_option maxHeartbeats 40000000 in
theorem rmEns (l : Launch) (Z : State) (a0 : Array Value) (hw : ∀ d ∈ tables_1, d.before a0 Z = true) (ws : List Jvm.Cond) (sb : Nat) (vb : Nat) (kv : ClassId) (cp : Int32) (us : List Value) (cn : Int32) (mn : Int32) (h0 : Heap) (n0 : Nat) (Z0 : n0 ≤ h0.size) (P1 : Exa Z h0 sb "java/lang/StringBuilder") (P2 : Fld Z h0 sb "java/lang/AbstractStringBuilder" "value" "[B" (.ref vb)) (P3 : Fld Z h0 sb "java/lang/AbstractStringBuilder" "coder" "B" (.int (0 : Int32))) (P4 : Fld Z h0 sb "java/lang/AbstractStringBuilder" "count" "I" (.int cn)) (P5 : Exa Z h0 vb "[B") (P6 : Arv Z h0 vb kv .byte cp us (.int (0 : Int32))) (OLD : Old Z n0 h0) (hm : own_mn mn cp) (hcp : own_cap us cp) (gsb : n0 ≤ sb) (gvb : n0 ≤ vb) (hne : sb ≠ vb) :
    MetFree l (⟨"java/lang/AbstractStringBuilder", "ensureCapacityInternal", "(I)V"⟩ : MethodName) (head1 (Jvm.Cond.code (⟨"java/lang/AbstractStringBuilder", "ensureCapacityInternal", "(I)V"⟩ : MethodName) jdk_68_method_9_code 3 none :: ws) ({ frames := 3, cells := 1, slots := 142, locals := 48 } : Room)) (fun a U => a = #[(.ref sb), (.int mn)] ∧ Z.Warmed39 U.vm ∧ U.heap = h0) (fun _ _ _ _ _ => True) (fun _ U o U' => ∃ v L, o = .returned v ∧ Q_rmEns Z sb vb kv cp us cn mn h0 n0 v U'.heap L ∧ FrameEnd U o U' L ({ frames := 3, cells := 1, slots := 142, locals := 48 } : Room).cells ({ frames := 3, cells := 1, slots := 142, locals := 48 } : Room).slots) := by
  refine MetFree.of_bodySF (plainFor_of_name pn_java_lang_AbstractStringBuilder) hisR ?_
  intro p e s m args below meth c s₁ Bd hml0 hP hK
  obtain ⟨rfl, hZ, hh⟩ := hP
  have hx := Bd.exec
  have hby := Bd.bytes
  have hml : c.maxLocals = 3 := hml0
  have hown : s.vm.findClass "java/lang/AbstractStringBuilder" = some m.cls := findClass_of_methodNamed Bd.named
  have hnm := (name_of_methodNamed Bd.named Bd.method).1
  have X0 : Stand p l e ({ frames := 3, cells := 1, slots := 142, locals := 48 } : Room) s m #[(.ref sb), (.int mn)] below meth c s₁ [] 0 0 := Stand.of_body Bd
  have e0 : s₁.heap = h0 := by rw [← hh, Bd.state]; rfl
  have N0 := Fr.nil n0
  have pre0 : ∀ t, Steps p.tables e below (s₁.setTop (mkF m 0 #[.val (.ref sb), .val (.int mn), .unset] [])) t → Steps p.tables e below (s₁.setTop (entryFrame m #[(.ref sb), (.int mn)] 3)) t := fun t k => castTop (ef_rmEns m sb mn) k
  have w_38 := hw _ (List.mem_of_getElem? (i := 38) rfl)
  have w_39 := hw _ (List.mem_of_getElem? (i := 39) rfl)
  have w_40 := hw _ (List.mem_of_getElem? (i := 40) rfl)
  have w_79 := hw _ (List.mem_of_getElem? (i := 79) rfl)
  have w_80 := hw _ (List.mem_of_getElem? (i := 80) rfl)
  have w_82 := hw _ (List.mem_of_getElem? (i := 82) rfl)
  have w_95 := hw _ (List.mem_of_getElem? (i := 95) rfl)
  have w_96 := hw _ (List.mem_of_getElem? (i := 96) rfl)
  have oz := OLD.1
  have lt_sb : sb < h0.size := P1.lt
  have lt_vb : vb < h0.size := P5.lt
  refine own_go (B := s₁.setTop (mkF m 0 #[.val (.ref sb), .val (.int mn), .unset] [])) pre0 ?_
  show ∃ t o, Steps p.tables e below (s₁.setTop (mkF m 0 #[.val (.ref sb), .val (.int mn), .unset] [])) t ∧ _
  refine own_go (fun _ => XS.aloadN X0.here hx rfl (hb hby d10_0) rfl rfl) ?_
  obtain ⟨T7, X7, e7, st7⟩ := getF X0 hx hZ hown (host := "") (Or.inl w_38) Via.refl e0 P2 (g := (mkF m 1 #[.val (.ref sb), .val (.int mn), .unset] [(.ref sb)])) rfl rfl (hb hby d10_1)
  refine own_go st7 ?_
  obtain ⟨cl8, Ar8, q8, S8, N8, H8, G8⟩ := id P6
  have ln8 : cl8.slots.size.toInt32 = cp := len_of S8 N8
  have al8 := X7.arraylength hx (by rw [e7]; exact Ar8.1) (State.isArrayOf_alike hZ.alike Ar8.2.1) (g := (mkF m 4 #[.val (.ref sb), .val (.int mn), .unset] [(.ref vb)])) rfl rfl (hb hby d10_4)
  rw [ln8] at al8
  refine own_go al8 ?_
  refine own_go (fun _ => XS.aloadN X7.here hx rfl (hb hby d10_5) rfl rfl) ?_
  obtain ⟨T9, X9, e9, st9⟩ := getF X7 hx hZ hown (host := "") (Or.inl w_40) Via.refl e7 P3 (g := (mkF m 6 #[.val (.ref sb), .val (.int mn), .unset] [(.ref sb), (.int cp)])) rfl rfl (hb hby d10_6)
  refine own_go st9 ?_
  refine own_go (fun _ => XS.ishr X9.here hx rfl (hb hby d10_9) rfl) ?_
  show ∃ t o, Steps p.tables e below (T9.setTop (mkF m 10 #[.val (.ref sb), .val (.int mn), .unset] [(.int (cp >>> ((0 : Int32) &&& 31)))])) t ∧ _
  rw [own_shr0]
  show ∃ t o, Steps p.tables e below (T9.setTop (mkF m 10 #[.val (.ref sb), .val (.int mn), .unset] [(.int cp)])) t ∧ _
  refine own_go (fun _ => XS.istoreN X9.here hx rfl (hb hby d10_10) rfl (l' := #[.val (.ref sb), .val (.int mn), .val (.int cp)]) rfl) ?_
  refine own_go (fun _ => XS.iloadN X9.here hx rfl (hb hby d10_11) rfl) ?_
  refine own_go (fun _ => XS.iloadN X9.here hx rfl (hb hby d10_12) rfl) ?_
  refine own_go (fun _ => XS.isub X9.here hx rfl (hb hby d10_13) rfl) ?_
  show ∃ t o, Steps p.tables e below (T9.setTop (mkF m 14 #[.val (.ref sb), .val (.int mn), .val (.int cp)] [(.int (mn - cp))])) t ∧ _
  by_cases hc10 : (0 : Int32) < (mn - cp)
  · refine own_go (fun _ => XS.ifNo X9.here hx rfl (hb hby d10_14) rfl ((if0 _ _).trans (tlt hc10).2.2.2)) ?_
    refine own_go (fun _ => XS.aloadN X9.here hx rfl (hb hby d10_17) rfl rfl) ?_
    refine own_go (fun _ => XS.aloadN X9.here hx rfl (hb hby d10_18) rfl rfl) ?_
    obtain ⟨T11, X11, e11, st11⟩ := getF X9 hx hZ hown (host := "") (Or.inl w_38) Via.refl e9 P2 (g := (mkF m 19 #[.val (.ref sb), .val (.int mn), .val (.int cp)] [(.ref sb), (.ref sb)])) rfl rfl (hb hby d10_19)
    refine own_go st11 ?_
    refine own_go (fun _ => XS.aloadN X11.here hx rfl (hb hby d10_22) rfl rfl) ?_
    refine own_go (fun _ => XS.iloadN X11.here hx rfl (hb hby d10_23) rfl) ?_
    show ∃ t o, Steps p.tables e below (T11.setTop (mkF m 24 #[.val (.ref sb), .val (.int mn), .val (.int cp)] [(.int mn), (.ref sb), (.ref vb), (.ref sb)])) t ∧ _
    obtain ⟨cq12, q12, q12'⟩ := P1.cell
    obtain ⟨_, _, ⟨T12, L12, k12, n12⟩, -, X12, ⟨Lc12, hQ12, l12, y12, z12⟩, st12⟩ := X11.privateBack hx (y := (⟨"java/lang/AbstractStringBuilder", "newCapacity", "(I)I"⟩ : MethodName)) hown (mvT hZ (hw _ (List.mem_of_getElem? (i := 78) rfl))) (mvT hZ w_79) (mvT hZ (own_selp (y := (⟨"java/lang/AbstractStringBuilder", "newCapacity", "(I)I"⟩ : MethodName)) (hw _ (List.mem_of_getElem? (i := 76) rfl)) rfl w_80 w_79 (by decide))) (Cond.privateMethod_at (mvP hZ w_80 (args := #[]))) (mvT hZ w_82) (by decide) (backOf (W := 2) (rmNC l Z a0 hw [] sb vb kv cp us mn h0 n0 Z0 P2 P3 P6 OLD hm hcp hc10) hZ w_82 (hw _ (List.mem_of_getElem? (i := 32) rfl)) (by decide) (by decide)) (g := (mkF m 24 #[.val (.ref sb), .val (.int mn), .val (.int cp)] [(.int mn), (.ref sb), (.ref vb), (.ref sb)])) rfl (by rw [hml]; rfl) (Steps.refl _) (a := sb) (by rw [e11]; exact q12) q12' (argsL := [(.int mn)]) (rest := [(.ref vb), (.ref sb)]) (lenOf pd__28I_29I rfl) rfl (by show 2 * 0 + _ ≤ _; exact Nat.le_of_eq rfl) (hb hby d10_24) (fun _ _ => ⟨rfl, e11, (by decide : 0 + 0 ≤ _), (by decide : 0 + 0 ≤ _)⟩)
    dsimp only [Pt.U, Pt.locs, Pt.cells, Pt.slots] at X12 l12 y12 z12 st12 hQ12
    rw [l12, y12, z12] at X12
    obtain ⟨r2_12, rfl, Nq12, e12, H12_0⟩ := hQ12
    have N12 := Fr.app N0 Nq12
    refine own_goT st12 ?_
    refine own_go (fun _ => XS.aloadN X12.here hx rfl (hb hby d10_27) rfl rfl) ?_
    obtain ⟨T13, X13, e13, st13⟩ := getF X12 hx hZ hown (host := "") (Or.inl w_40) Via.refl e12 P3 (g := (mkF m 28 #[.val (.ref sb), .val (.int mn), .val (.int cp)] [(.ref sb), (.int r2_12), (.ref vb), (.ref sb)])) rfl rfl (hb hby d10_28)
    refine own_go st13 ?_
    refine own_go (fun _ => XS.ishl X13.here hx rfl (hb hby d10_31) rfl) ?_
    show ∃ t o, Steps p.tables e below (T13.setTop (mkF m 32 #[.val (.ref sb), .val (.int mn), .val (.int cp)] [(.int (r2_12 <<< ((0 : Int32) &&& 31))), (.ref vb), (.ref sb)])) t ∧ _
    rw [own_shl0]
    show ∃ t o, Steps p.tables e below (T13.setTop (mkF m 32 #[.val (.ref sb), .val (.int mn), .val (.int cp)] [(.int r2_12), (.ref vb), (.ref sb)])) t ∧ _
    obtain ⟨_, _, ⟨T14, L14, k14, n14⟩, -, X14, ⟨Lc14, hQ14, l14, y14, z14⟩, st14⟩ := Jvm.LawKit.callS X13 hx (y := (⟨"java/util/Arrays", "copyOf", "([BI)[B"⟩ : MethodName)) hown (mvT hZ (hw _ (List.mem_of_getElem? (i := 93) rfl))) (mvT hZ (hw _ (List.mem_of_getElem? (i := 94) rfl))) (mvT hZ w_95) (mvT hZ w_96) (by decide) (backOf (W := 1) (rmCpo l Z a0 hw [] vb kv cp us r2_12 h0 n0 Z0 P6 OLD ((own_pos hm hcp hc10 H12_0).2.2.2.1 : ¬ (r2_12 = cp)) ((own_pos hm hcp hc10 H12_0).2.2.2.2.1 : ¬ (r2_12 < cp)) ((own_pos hm hcp hc10 H12_0).2.2.2.2.2.1 : ¬ (r2_12 < (0 : Int32))) ((own_pos hm hcp hc10 H12_0).2.2.2.2.2.2.2.1 : r2_12.toNatClampNeg ≤ 142) ((own_pos hm hcp hc10 H12_0).2.2.2.2.2.2.2.2 : cp.toNatClampNeg ≤ r2_12.toNatClampNeg) hcp) hZ w_96 w_95 (by decide) (by decide)) (g := (mkF m 32 #[.val (.ref sb), .val (.int mn), .val (.int cp)] [(.int r2_12), (.ref vb), (.ref sb)])) rfl (by rw [hml]; rfl) (argsL := [(.ref vb), (.int r2_12)]) (rest := [(.ref sb)]) (lenOf pd__28_5bBI_29_5bB rfl) rfl (by show 2 * 0 + _ ≤ _; exact Nat.le_of_eq rfl) (hb hby d10_32) (fun _ _ => ⟨rfl, e13, (by decide : 0 + 1 ≤ _), (by decide : 0 + 142 ≤ _)⟩)
    dsimp only [Pt.U, Pt.locs, Pt.cells, Pt.slots] at X14 l14 y14 z14 st14 hQ14
    rw [l14, y14, z14] at X14
    obtain ⟨nb_14, kn_14, rfl, Nq14, Kp14, G14_0, G14_1, H14_0⟩ := hQ14
    have N14 := Fr.app N12 Nq14
    refine own_go st14 ?_
    have le_14 : h0.size ≤ T14.heap.size := Kp14.1
    have K14 : Keep h0 T14.heap [sb] := Keep.trans (Keep.refl h0 [sb]) Kp14 all0
    have lt_nb_14 : nb_14 < T14.heap.size := (G14_0).lt
    have F15 := (Exa.keep P1 Kp14)
    have F16 := (Fld.keep P2 Kp14 nin0)
    obtain ⟨T17, h17, X17, e17, W17, st17⟩ := putF X14 hx hZ hown (host := "") (Or.inl w_38) Via.refl rfl F16 F15 (Or.inl w_39) (hw _ (List.mem_of_getElem? (i := 23) rfl)) (ty := (.array .byte)) (by decide) rfl rfl (g := (mkF m 35 #[.val (.ref sb), .val (.int mn), .val (.int cp)] [(.ref nb_14), (.ref sb)])) rfl rfl (hb hby d10_35)
    refine own_go st17 ?_
    have le_17 : T14.heap.size ≤ h17.size := Nat.le_of_eq W17.size.symm
    have K17 : Keep h0 h17 [sb] := Keep.wr K14 W17 (Or.inl (List.mem_of_getElem? (i := 0) rfl))
    have N17 := Fr.snoc X17 N14 gsb
    have Fw17 := Fld.same W17 F16
    show ∃ t o, Steps p.tables e below (T17.setTop (mkF m 38 #[.val (.ref sb), .val (.int mn), .val (.int cp)] [])) t ∧ _
    have F18 := (Exa.wr W17 F15)
    have F19 := (Fld.other W17 (Fld.keep P3 Kp14 nin0) (Or.inr (slot_ne (a0 := a0) (Or.inl (hw _ (List.mem_of_getElem? (i := 41) rfl))) (Or.inl w_39) (by decide) (t := .byte) (t' := (.array .byte)) (by decide) (by decide))))
    have F20 := (Fld.other W17 (Fld.keep P4 Kp14 nin0) (Or.inr (slot_ne (a0 := a0) (Or.inl (hw _ (List.mem_of_getElem? (i := 72) rfl))) (Or.inl w_39) (by decide) (t := .int) (t' := (.array .byte)) (by decide) (by decide))))
    have F21 := (Exa.wr W17 G14_0)
    have ne22 : nb_14 ≠ sb := own_ne (by omega)
    have F23 := (Arv.other G14_1 W17 ne22)
    have ne24 : sb ≠ nb_14 := own_ne (by omega)
    obtain ⟨fs, hr, hrun, hended, hW, hsame⟩ := X17.leave (v := none) (fun _ => rfl)
    refine ⟨_, _, ?_, hrun, hended, _, _, rfl, ?_, ⟨_, rfl⟩, hW, hsame.mono (by decide) (by decide)⟩
    · exact X17.returnOut hx Bd.returns (hb hby d10_38) hr
    · show Q_rmEns Z _ _ _ _ _ _ _ h0 n0 _ T17.heap _
      rw [e17]
      exact ⟨nb_14, kn_14, r2_12, rfl, N17, K17, F18, Fw17, F19, F20, F21, F23, (own_pos hm hcp hc10 H12_0).2.2.2.2.2.2.1, H12_0.1, (Or.inr (by omega)), ne24, (by omega)⟩
  · refine own_go (fun _ => XS.ifYes X9.here hx rfl (pc0 := 14) (pc' := 38) rfl (hb hby d10_14) rfl ((if0 _ _).trans (flt hc10).2.2.2) (by decide) (by decide)) ?_
    show ∃ t o, Steps p.tables e below (T9.setTop (mkF m 38 #[.val (.ref sb), .val (.int mn), .val (.int cp)] [])) t ∧ _
    obtain ⟨fs, hr, hrun, hended, hW, hsame⟩ := X9.leave (v := none) (fun _ => rfl)
    refine ⟨_, _, ?_, hrun, hended, _, _, rfl, ?_, ⟨_, rfl⟩, hW, hsame.mono (by decide) (by decide)⟩
    · exact X9.returnOut hx Bd.returns (hb hby d10_38) hr
    · show Q_rmEns Z _ _ _ _ _ _ _ h0 n0 _ T9.heap _
      rw [e9]
      exact ⟨vb, kv, cp, rfl, N0, (Keep.refl h0 [sb]), P1, P2, P3, P4, P5, P6, hcp, (Int.not_lt.mp (mt (own_gt hm hcp).mpr hc10)), (Or.inl rfl), hne, gvb⟩
theorem ef_rmInf (m : MethodId) (x0 : Nat) (x1 : Nat) : entryFrame m #[(.ref x0), (.ref x1)] 2 = mkF m 0 #[.val (.ref x0), .val (.ref x1)] [] := by first | (simp [entryFrame, mkF, argsToLocals, Value.category]; done) | rfl
theorem d17_0 : decode jdk_68_method_71_code 0 = .ok (.getstatic 18, 3) := by decide +kernel
theorem d17_3 : decode jdk_68_method_71_code 3 = .ok (.ifCond .eq 18, 3) := by decide +kernel
theorem d17_6 : decode jdk_68_method_71_code 6 = .ok (.aload_n 0, 1) := by decide +kernel
theorem d17_7 : decode jdk_68_method_71_code 7 = .ok (.getfield 22, 3) := by decide +kernel
theorem d17_10 : decode jdk_68_method_71_code 10 = .ok (.aload_n 1, 1) := by decide +kernel
theorem d17_11 : decode jdk_68_method_71_code 11 = .ok (.invokevirtual 40, 3) := by decide +kernel
theorem d17_14 : decode jdk_68_method_71_code 14 = .ok (.if_icmp .eq 7, 3) := by decide +kernel
theorem d17_21 : decode jdk_68_method_71_code 21 = .ok (.return_, 1) := by decide +kernel
def Q_rmInf (Z : State) (sb : Nat) (so : Nat) (zc : Int32) (h0 : Heap) (n0 : Nat) (v : Option Value) (h : Heap) (L : List Loc) : Prop := v = none ∧ Fr n0 L ∧ h = h0
set_option maxRecDepth 65536 in
set_option maxHeartbeats 40000000 in
theorem rmInf (l : Launch) (Z : State) (a0 : Array Value) (hw : ∀ d ∈ tables_1, d.before a0 Z = true) (ws : List Jvm.Cond) (sb : Nat) (so : Nat) (zc : Int32) (h0 : Heap) (n0 : Nat) (Z0 : n0 ≤ h0.size) (P1 : Exa Z h0 sb "java/lang/StringBuilder") (P2 : Fld Z h0 sb "java/lang/AbstractStringBuilder" "coder" "B" (.int (0 : Int32))) (P3 : Exa Z h0 so "java/lang/String") (P4 : Fld Z h0 so "java/lang/String" "coder" "B" (.int (0 : Int32))) (OLD : Old Z n0 h0) (P5 : Sta Z Z.heap "java/lang/String" "COMPACT_STRINGS" "Z" (.int zc)) (hzc : ¬ (zc = (0 : Int32))) :
    MetFree l (⟨"java/lang/AbstractStringBuilder", "inflateIfNeededFor", "(Ljava/lang/String;)V"⟩ : MethodName) (head1 (Jvm.Cond.code (⟨"java/lang/AbstractStringBuilder", "inflateIfNeededFor", "(Ljava/lang/String;)V"⟩ : MethodName) jdk_68_method_71_code 2 none :: ws) ({ frames := 1, cells := 0, slots := 0, locals := 13 } : Room)) (fun a U => a = #[(.ref sb), (.ref so)] ∧ Z.Warmed39 U.vm ∧ U.heap = h0) (fun _ _ _ _ _ => True) (fun _ U o U' => ∃ v L, o = .returned v ∧ Q_rmInf Z sb so zc h0 n0 v U'.heap L ∧ FrameEnd U o U' L ({ frames := 1, cells := 0, slots := 0, locals := 13 } : Room).cells ({ frames := 1, cells := 0, slots := 0, locals := 13 } : Room).slots) := by
  refine MetFree.of_bodySF (plainFor_of_name pn_java_lang_AbstractStringBuilder) hisR ?_
  intro p e s m args below meth c s₁ Bd hml0 hP hK
  obtain ⟨rfl, hZ, hh⟩ := hP
  have hx := Bd.exec
  have hby := Bd.bytes
  have hml : c.maxLocals = 2 := hml0
  have hown : s.vm.findClass "java/lang/AbstractStringBuilder" = some m.cls := findClass_of_methodNamed Bd.named
  have hnm := (name_of_methodNamed Bd.named Bd.method).1
  have X0 : Stand p l e ({ frames := 1, cells := 0, slots := 0, locals := 13 } : Room) s m #[(.ref sb), (.ref so)] below meth c s₁ [] 0 0 := Stand.of_body Bd
  have e0 : s₁.heap = h0 := by rw [← hh, Bd.state]; rfl
  have N0 := Fr.nil n0
  have pre0 : ∀ t, Steps p.tables e below (s₁.setTop (mkF m 0 #[.val (.ref sb), .val (.ref so)] [])) t → Steps p.tables e below (s₁.setTop (entryFrame m #[(.ref sb), (.ref so)] 2)) t := fun t k => castTop (ef_rmInf m sb so) k
  have w_67 := hw _ (List.mem_of_getElem? (i := 67) rfl)
  have oz := OLD.1
  have lt_sb : sb < h0.size := P1.lt
  have lt_so : so < h0.size := P3.lt
  refine own_go (B := s₁.setTop (mkF m 0 #[.val (.ref sb), .val (.ref so)] [])) pre0 ?_
  show ∃ t o, Steps p.tables e below (s₁.setTop (mkF m 0 #[.val (.ref sb), .val (.ref so)] [])) t ∧ _
  obtain ⟨T6, X6, e6, st6⟩ := getS2 X0 hx hZ hown (host := "") (Or.inl (hw _ (List.mem_of_getElem? (i := 35) rfl))) Via.refl e0 (Sta.ext OLD.2 P5) (g := (mkF m 0 #[.val (.ref sb), .val (.ref so)] [])) rfl (hb hby d17_0)
  refine own_go st6 ?_
  show ∃ t o, Steps p.tables e below (T6.setTop (mkF m 3 #[.val (.ref sb), .val (.ref so)] [(.int zc)])) t ∧ _
  refine own_go (fun _ => XS.ifNo X6.here hx rfl (hb hby d17_3) rfl ((if0 _ _).trans (feq hzc).1)) ?_
  refine own_go (fun _ => XS.aloadN X6.here hx rfl (hb hby d17_6) rfl rfl) ?_
  obtain ⟨T7, X7, e7, st7⟩ := getF X6 hx hZ hown (host := "") (Or.inl (hw _ (List.mem_of_getElem? (i := 40) rfl))) Via.refl e6 P2 (g := (mkF m 7 #[.val (.ref sb), .val (.ref so)] [(.ref sb)])) rfl rfl (hb hby d17_7)
  refine own_go st7 ?_
  refine own_go (fun _ => XS.aloadN X7.here hx rfl (hb hby d17_10) rfl rfl) ?_
  show ∃ t o, Steps p.tables e below (T7.setTop (mkF m 11 #[.val (.ref sb), .val (.ref so)] [(.ref so), (.int (0 : Int32))])) t ∧ _
  obtain ⟨cq8, kq8, q8a, q8b, q8c⟩ := isOf hZ e7 P3
  obtain ⟨_, _, ⟨T8, L8, k8, n8⟩, -, X8, ⟨Lc8, hQ8, l8, y8, z8⟩, st8⟩ := X7.virtualBack hx (y := (⟨"java/lang/String", "coder", "()B"⟩ : MethodName)) (z := (⟨"java/lang/String", "coder", "()B"⟩ : MethodName)) hown (mvT hZ (hw _ (List.mem_of_getElem? (i := 114) rfl))) (mvT hZ (hw _ (List.mem_of_getElem? (i := 65) rfl))) (notFace_of_selects (args := #[]) (mvT hZ w_67)) (mvT hZ w_67) (mvT hZ (hw _ (List.mem_of_getElem? (i := 66) rfl))) (by decide) (backOf (W := 1) (rmCoder l Z a0 hw [] so zc h0 n0 Z0 P4 OLD P5 hzc) hZ (hw _ (List.mem_of_getElem? (i := 68) rfl)) (hw _ (List.mem_of_getElem? (i := 36) rfl)) (by decide) (by decide)) q8a q8c (g := (mkF m 11 #[.val (.ref sb), .val (.ref so)] [(.ref so), (.int (0 : Int32))])) rfl (by rw [hml]; rfl) (Steps.refl _) (argsL := []) (rest := [(.int (0 : Int32))]) (lenOf pd__28_29B rfl) rfl (by show 2 * 0 + _ ≤ _; exact Nat.le_of_eq rfl) (hb hby d17_11) (fun _ _ => ⟨rfl, e7, (by decide : 0 + 0 ≤ _), (by decide : 0 + 0 ≤ _)⟩)
  dsimp only [Pt.U, Pt.locs, Pt.cells, Pt.slots] at X8 l8 y8 z8 st8 hQ8
  rw [l8, y8, z8] at X8
  obtain ⟨rfl, Nq8, e8⟩ := hQ8
  have N8 := Fr.app N0 Nq8
  refine own_goT st8 ?_
  show ∃ t o, Steps p.tables e below (T8.setTop (mkF m 14 #[.val (.ref sb), .val (.ref so)] [(.int (0 : Int32)), (.int (0 : Int32))])) t ∧ _
  refine own_go (fun _ => XS.icmpYes X8.here hx rfl (pc0 := 14) (pc' := 21) rfl (hb hby d17_14) rfl (teq (by decide : (0 : Int32) = (0 : Int32))).1 (by decide) (by decide)) ?_
  show ∃ t o, Steps p.tables e below (T8.setTop (mkF m 21 #[.val (.ref sb), .val (.ref so)] [])) t ∧ _
  obtain ⟨fs, hr, hrun, hended, hW, hsame⟩ := X8.leave (v := none) (fun _ => rfl)
  refine ⟨_, _, ?_, hrun, hended, _, _, rfl, ?_, ⟨_, rfl⟩, hW, hsame.mono (by decide) (by decide)⟩
  · exact X8.returnOut hx Bd.returns (hb hby d17_21) hr
  · show Q_rmInf Z _ _ _ h0 n0 _ T8.heap _
    rw [e8]
    exact ⟨rfl, N8, rfl⟩
theorem ef_rmGb (m : MethodId) (x0 : Nat) (x1 : Nat) (x2 : Int32) (x3 : Int32) : entryFrame m #[(.ref x0), (.ref x1), (.int x2), (.int x3)] 4 = mkF m 0 #[.val (.ref x0), .val (.ref x1), .val (.int x2), .val (.int x3)] [] := by first | (simp [entryFrame, mkF, argsToLocals, Value.category]; done) | rfl
theorem d18_0 : decode jdk_42_method_147_code 0 = .ok (.aload_n 0, 1) := by decide +kernel
theorem d18_1 : decode jdk_42_method_147_code 1 = .ok (.invokevirtual 335, 3) := by decide +kernel
theorem d18_4 : decode jdk_42_method_147_code 4 = .ok (.iload_n 3, 1) := by decide +kernel
theorem d18_5 : decode jdk_42_method_147_code 5 = .ok (.if_icmp .ne 23, 3) := by decide +kernel
theorem d18_8 : decode jdk_42_method_147_code 8 = .ok (.aload_n 0, 1) := by decide +kernel
theorem d18_9 : decode jdk_42_method_147_code 9 = .ok (.getfield 9, 3) := by decide +kernel
theorem d18_12 : decode jdk_42_method_147_code 12 = .ok (.iconst 0, 1) := by decide +kernel
theorem d18_13 : decode jdk_42_method_147_code 13 = .ok (.aload_n 1, 1) := by decide +kernel
theorem d18_14 : decode jdk_42_method_147_code 14 = .ok (.iload_n 2, 1) := by decide +kernel
theorem d18_15 : decode jdk_42_method_147_code 15 = .ok (.iload_n 3, 1) := by decide +kernel
theorem d18_16 : decode jdk_42_method_147_code 16 = .ok (.ishl, 1) := by decide +kernel
theorem d18_17 : decode jdk_42_method_147_code 17 = .ok (.aload_n 0, 1) := by decide +kernel
theorem d18_18 : decode jdk_42_method_147_code 18 = .ok (.getfield 9, 3) := by decide +kernel
theorem d18_21 : decode jdk_42_method_147_code 21 = .ok (.arraylength, 1) := by decide +kernel
theorem d18_22 : decode jdk_42_method_147_code 22 = .ok (.invokestatic 212, 3) := by decide +kernel
theorem d18_25 : decode jdk_42_method_147_code 25 = .ok (.goto 18, 3) := by decide +kernel
theorem d18_43 : decode jdk_42_method_147_code 43 = .ok (.return_, 1) := by decide +kernel
def Q_rmGb (Z : State) (so : Nat) (tb : Nat) (kb : ClassId) (nn : Int32) (vs : List Value) (vb : Nat) (kv : ClassId) (cp : Int32) (us : List Value) (cn : Int32) (zc : Int32) (h0 : Heap) (n0 : Nat) (v : Option Value) (h : Heap) (L : List Loc) : Prop := v = none ∧ Fr n0 L ∧ Keep h0 h [vb] ∧ Arv Z h vb kv .byte cp (us ++ vs) (.int (0 : Int32))
set_option maxRecDepth 65536 in
set_option maxHeartbeats 40000000 in
theorem rmGb (l : Launch) (Z : State) (a0 : Array Value) (hw : ∀ d ∈ tables_1, d.before a0 Z = true) (ws : List Jvm.Cond) (so : Nat) (tb : Nat) (kb : ClassId) (nn : Int32) (vs : List Value) (vb : Nat) (kv : ClassId) (cp : Int32) (us : List Value) (cn : Int32) (zc : Int32) (h0 : Heap) (n0 : Nat) (Z0 : n0 ≤ h0.size) (P1 : Exa Z h0 so "java/lang/String") (P2 : Fld Z h0 so "java/lang/String" "value" "[B" (.ref tb)) (P3 : Fld Z h0 so "java/lang/String" "coder" "B" (.int (0 : Int32))) (P4 : Arv Z h0 tb kb .byte nn vs (.int (0 : Int32))) (P5 : Arv Z h0 vb kv .byte cp us (.int (0 : Int32))) (OLD : Old Z n0 h0) (P6 : Sta Z Z.heap "java/lang/String" "COMPACT_STRINGS" "Z" (.int zc)) (hzc : ¬ (zc = (0 : Int32))) (f1 : own_fit vs nn) (f2 : own_fit us cn) (hq : us.length + vs.length ≤ cp.toNatClampNeg) (gvb : n0 ≤ vb) :
    MetFree l (⟨"java/lang/String", "getBytes", "([BIB)V"⟩ : MethodName) (head1 (Jvm.Cond.code (⟨"java/lang/String", "getBytes", "([BIB)V"⟩ : MethodName) jdk_42_method_147_code 4 none :: ws) ({ frames := 1, cells := 0, slots := 0, locals := 18 } : Room)) (fun a U => a = #[(.ref so), (.ref vb), (.int cn), (.int (0 : Int32))] ∧ Z.Warmed39 U.vm ∧ U.heap = h0) (fun _ _ _ _ _ => True) (fun _ U o U' => ∃ v L, o = .returned v ∧ Q_rmGb Z so tb kb nn vs vb kv cp us cn zc h0 n0 v U'.heap L ∧ FrameEnd U o U' L ({ frames := 1, cells := 0, slots := 0, locals := 18 } : Room).cells ({ frames := 1, cells := 0, slots := 0, locals := 18 } : Room).slots) := by
  refine MetFree.of_bodySF (plainFor_of_name pn_java_lang_String) hisR ?_
  intro p e s m args below meth c s₁ Bd hml0 hP hK
  obtain ⟨rfl, hZ, hh⟩ := hP
  have hx := Bd.exec
  have hby := Bd.bytes
  have hml : c.maxLocals = 4 := hml0
  have hown : s.vm.findClass "java/lang/String" = some m.cls := findClass_of_methodNamed Bd.named
  have hnm := (name_of_methodNamed Bd.named Bd.method).1
  have X0 : Stand p l e ({ frames := 1, cells := 0, slots := 0, locals := 18 } : Room) s m #[(.ref so), (.ref vb), (.int cn), (.int (0 : Int32))] below meth c s₁ [] 0 0 := Stand.of_body Bd
  have e0 : s₁.heap = h0 := by rw [← hh, Bd.state]; rfl
  have N0 := Fr.nil n0
  have pre0 : ∀ t, Steps p.tables e below (s₁.setTop (mkF m 0 #[.val (.ref so), .val (.ref vb), .val (.int cn), .val (.int (0 : Int32))] [])) t → Steps p.tables e below (s₁.setTop (entryFrame m #[(.ref so), (.ref vb), (.int cn), (.int (0 : Int32))] 4)) t := fun t k => castTop (ef_rmGb m so vb cn (0 : Int32)) k
  have w_63 := hw _ (List.mem_of_getElem? (i := 63) rfl)
  have w_67 := hw _ (List.mem_of_getElem? (i := 67) rfl)
  have oz := OLD.1
  have lt_so : so < h0.size := P1.lt
  have lt_tb : tb < h0.size := P4.lt
  have lt_vb : vb < h0.size := P5.lt
  refine own_go (B := s₁.setTop (mkF m 0 #[.val (.ref so), .val (.ref vb), .val (.int cn), .val (.int (0 : Int32))] [])) pre0 ?_
  show ∃ t o, Steps p.tables e below (s₁.setTop (mkF m 0 #[.val (.ref so), .val (.ref vb), .val (.int cn), .val (.int (0 : Int32))] [])) t ∧ _
  refine own_go (fun _ => XS.aloadN X0.here hx rfl (hb hby d18_0) rfl rfl) ?_
  show ∃ t o, Steps p.tables e below (s₁.setTop (mkF m 1 #[.val (.ref so), .val (.ref vb), .val (.int cn), .val (.int (0 : Int32))] [(.ref so)])) t ∧ _
  obtain ⟨cq7, kq7, q7a, q7b, q7c⟩ := isOf hZ e0 P1
  obtain ⟨_, _, ⟨T7, L7, k7, n7⟩, -, X7, ⟨Lc7, hQ7, l7, y7, z7⟩, st7⟩ := X0.virtualBack hx (y := (⟨"java/lang/String", "coder", "()B"⟩ : MethodName)) (z := (⟨"java/lang/String", "coder", "()B"⟩ : MethodName)) hown (mvT hZ (hw _ (List.mem_of_getElem? (i := 64) rfl))) (mvT hZ (hw _ (List.mem_of_getElem? (i := 65) rfl))) (notFace_of_selects (args := #[]) (mvT hZ w_67)) (mvT hZ w_67) (mvT hZ (hw _ (List.mem_of_getElem? (i := 66) rfl))) (by decide) (backOf (W := 0) (rmCoder l Z a0 hw [] so zc h0 n0 Z0 P3 OLD P6 hzc) hZ (hw _ (List.mem_of_getElem? (i := 68) rfl)) (hw _ (List.mem_of_getElem? (i := 36) rfl)) (by decide) (by decide)) q7a q7c (g := (mkF m 1 #[.val (.ref so), .val (.ref vb), .val (.int cn), .val (.int (0 : Int32))] [(.ref so)])) rfl (by rw [hml]; rfl) (Steps.refl _) (argsL := []) (rest := []) (lenOf pd__28_29B rfl) rfl (by show 2 * 0 + _ ≤ _; exact Nat.le_of_eq rfl) (hb hby d18_1) (fun _ _ => ⟨rfl, e0, (by decide : 0 + 0 ≤ _), (by decide : 0 + 0 ≤ _)⟩)
  dsimp only [Pt.U, Pt.locs, Pt.cells, Pt.slots] at X7 l7 y7 z7 st7 hQ7
  rw [l7, y7, z7] at X7
  obtain ⟨rfl, Nq7, e7⟩ := hQ7
  have N7 := Fr.app N0 Nq7
  refine own_goT st7 ?_
  refine own_go (fun _ => XS.iloadN X7.here hx rfl (hb hby d18_4) rfl) ?_
  show ∃ t o, Steps p.tables e below (T7.setTop (mkF m 5 #[.val (.ref so), .val (.ref vb), .val (.int cn), .val (.int (0 : Int32))] [(.int (0 : Int32)), (.int (0 : Int32))])) t ∧ _
  refine own_go (fun _ => XS.icmpNo X7.here hx rfl (hb hby d18_5) rfl (teq (by decide : (0 : Int32) = (0 : Int32))).2) ?_
  refine own_go (fun _ => XS.aloadN X7.here hx rfl (hb hby d18_8) rfl rfl) ?_
  obtain ⟨T8, X8, e8, st8⟩ := getF X7 hx hZ hown (host := "") (Or.inl w_63) Via.refl e7 P2 (g := (mkF m 9 #[.val (.ref so), .val (.ref vb), .val (.int cn), .val (.int (0 : Int32))] [(.ref so)])) rfl rfl (hb hby d18_9)
  refine own_go st8 ?_
  refine own_go (fun _ => XS.iconst X8.here hx rfl (hb hby d18_12)) ?_
  refine own_go (fun _ => XS.aloadN X8.here hx rfl (hb hby d18_13) rfl rfl) ?_
  refine own_go (fun _ => XS.iloadN X8.here hx rfl (hb hby d18_14) rfl) ?_
  refine own_go (fun _ => XS.iloadN X8.here hx rfl (hb hby d18_15) rfl) ?_
  refine own_go (fun _ => XS.ishl X8.here hx rfl (hb hby d18_16) rfl) ?_
  show ∃ t o, Steps p.tables e below (T8.setTop (mkF m 17 #[.val (.ref so), .val (.ref vb), .val (.int cn), .val (.int (0 : Int32))] [(.int (cn <<< ((0 : Int32) &&& 31))), (.ref vb), (.int (0 : Int32)), (.ref tb)])) t ∧ _
  rw [own_shl0]
  show ∃ t o, Steps p.tables e below (T8.setTop (mkF m 17 #[.val (.ref so), .val (.ref vb), .val (.int cn), .val (.int (0 : Int32))] [(.int cn), (.ref vb), (.int (0 : Int32)), (.ref tb)])) t ∧ _
  refine own_go (fun _ => XS.aloadN X8.here hx rfl (hb hby d18_17) rfl rfl) ?_
  obtain ⟨T9, X9, e9, st9⟩ := getF X8 hx hZ hown (host := "") (Or.inl w_63) Via.refl e8 P2 (g := (mkF m 18 #[.val (.ref so), .val (.ref vb), .val (.int cn), .val (.int (0 : Int32))] [(.ref so), (.int cn), (.ref vb), (.int (0 : Int32)), (.ref tb)])) rfl rfl (hb hby d18_18)
  refine own_go st9 ?_
  obtain ⟨cl10, Ar10, q10, S10, N10, H10, G10⟩ := id P4
  have ln10 : cl10.slots.size.toInt32 = nn := len_of S10 N10
  have al10 := X9.arraylength hx (by rw [e9]; exact Ar10.1) (State.isArrayOf_alike hZ.alike Ar10.2.1) (g := (mkF m 21 #[.val (.ref so), .val (.ref vb), .val (.int cn), .val (.int (0 : Int32))] [(.ref tb), (.int cn), (.ref vb), (.int (0 : Int32)), (.ref tb)])) rfl rfl (hb hby d18_21)
  rw [ln10] at al10
  refine own_go al10 ?_
  show ∃ t o, Steps p.tables e below (T9.setTop (mkF m 22 #[.val (.ref so), .val (.ref vb), .val (.int cn), .val (.int (0 : Int32))] [(.int nn), (.int cn), (.ref vb), (.int (0 : Int32)), (.ref tb)])) t ∧ _
  obtain ⟨T11, h11, L11, X11, e11, N11, Kp11, V11, st11⟩ := own_cp X9 hx hZ hown (hw _ (List.mem_of_getElem? (i := 120) rfl)) (hw _ (List.mem_of_getElem? (i := 103) rfl)) (hw _ (List.mem_of_getElem? (i := 101) rfl)) (hw _ (List.mem_of_getElem? (i := 102) rfl)) e9 P4 P5 f1 f2 (Nat.le_of_eq (own_fit.cl f1).symm) hq N7 gvb (g := (mkF m 22 #[.val (.ref so), .val (.ref vb), .val (.int cn), .val (.int (0 : Int32))] [(.int nn), (.int cn), (.ref vb), (.int (0 : Int32)), (.ref tb)])) rfl (by rw [hml]; rfl) rfl (hb hby d18_22) (by decide) (W := 0) (by show 2 * 0 + _ ≤ _; exact Nat.le_of_eq rfl) (by decide +kernel)
  refine own_go st11 ?_
  have le_11 : h0.size ≤ h11.size := Kp11.1
  have K11 : Keep h0 h11 [vb] := Keep.trans (Keep.refl h0 [vb]) Kp11 (allS (Or.inl (List.mem_of_getElem? (i := 0) rfl)) all0)
  refine own_go (fun _ => XS.goto X11.here hx rfl (pc0 := 25) (pc' := 43) rfl (hb hby d18_25) (by decide) (by decide)) ?_
  show ∃ t o, Steps p.tables e below (T11.setTop (mkF m 43 #[.val (.ref so), .val (.ref vb), .val (.int cn), .val (.int (0 : Int32))] [])) t ∧ _
  obtain ⟨fs, hr, hrun, hended, hW, hsame⟩ := X11.leave (v := none) (fun _ => rfl)
  refine ⟨_, _, ?_, hrun, hended, _, _, rfl, ?_, ⟨_, rfl⟩, hW, hsame.mono (by decide) (by decide)⟩
  · exact X11.returnOut hx Bd.returns (hb hby d18_43) hr
  · show Q_rmGb Z _ _ _ _ _ _ _ _ _ _ _ h0 n0 _ T11.heap _
    rw [e11]
    exact ⟨rfl, N11, K11, V11⟩
theorem ef_rmPut (m : MethodId) (x0 : Nat) (x1 : Int32) (x2 : Nat) : entryFrame m #[(.ref x0), (.int x1), (.ref x2)] 3 = mkF m 0 #[.val (.ref x0), .val (.int x1), .val (.ref x2)] [] := by first | (simp [entryFrame, mkF, argsToLocals, Value.category]; done) | rfl
theorem d16_0 : decode jdk_68_method_73_code 0 = .ok (.aload_n 0, 1) := by decide +kernel
theorem d16_1 : decode jdk_68_method_73_code 1 = .ok (.aload_n 2, 1) := by decide +kernel
theorem d16_2 : decode jdk_68_method_73_code 2 = .ok (.invokevirtual 397, 3) := by decide +kernel
theorem pd__28Ljava_2flang_2fString_3b_29V : parseMethodDescriptor "(Ljava/lang/String;)V" = some ⟨[(.object "java/lang/String")], none⟩ := by decide +kernel
theorem d16_5 : decode jdk_68_method_73_code 5 = .ok (.aload_n 2, 1) := by decide +kernel
theorem d16_6 : decode jdk_68_method_73_code 6 = .ok (.aload_n 0, 1) := by decide +kernel
theorem d16_7 : decode jdk_68_method_73_code 7 = .ok (.getfield 15, 3) := by decide +kernel
theorem d16_10 : decode jdk_68_method_73_code 10 = .ok (.iload_n 1, 1) := by decide +kernel
theorem d16_11 : decode jdk_68_method_73_code 11 = .ok (.aload_n 0, 1) := by decide +kernel
theorem d16_12 : decode jdk_68_method_73_code 12 = .ok (.getfield 22, 3) := by decide +kernel
theorem d16_15 : decode jdk_68_method_73_code 15 = .ok (.invokevirtual 399, 3) := by decide +kernel
theorem pd__28_5bBIB_29V : parseMethodDescriptor "([BIB)V" = some ⟨[(.array .byte), .int, .byte], none⟩ := by decide +kernel
theorem d16_18 : decode jdk_68_method_73_code 18 = .ok (.return_, 1) := by decide +kernel
def Q_rmPut (Z : State) (so : Nat) (tb : Nat) (kb : ClassId) (nn : Int32) (vs : List Value) (sb : Nat) (vb : Nat) (kv : ClassId) (cp : Int32) (us : List Value) (cn : Int32) (zc : Int32) (h0 : Heap) (n0 : Nat) (v : Option Value) (h : Heap) (L : List Loc) : Prop := v = none ∧ Fr n0 L ∧ Keep h0 h [vb] ∧ Arv Z h vb kv .byte cp (us ++ vs) (.int (0 : Int32))
set_option maxRecDepth 65536 in
set_option maxHeartbeats 40000000 in
theorem rmPut (l : Launch) (Z : State) (a0 : Array Value) (hw : ∀ d ∈ tables_1, d.before a0 Z = true) (ws : List Jvm.Cond) (so : Nat) (tb : Nat) (kb : ClassId) (nn : Int32) (vs : List Value) (sb : Nat) (vb : Nat) (kv : ClassId) (cp : Int32) (us : List Value) (cn : Int32) (zc : Int32) (h0 : Heap) (n0 : Nat) (Z0 : n0 ≤ h0.size) (P1 : Exa Z h0 so "java/lang/String") (P2 : Fld Z h0 so "java/lang/String" "value" "[B" (.ref tb)) (P3 : Fld Z h0 so "java/lang/String" "coder" "B" (.int (0 : Int32))) (P4 : Arv Z h0 tb kb .byte nn vs (.int (0 : Int32))) (P5 : Exa Z h0 sb "java/lang/StringBuilder") (P6 : Fld Z h0 sb "java/lang/AbstractStringBuilder" "value" "[B" (.ref vb)) (P7 : Fld Z h0 sb "java/lang/AbstractStringBuilder" "coder" "B" (.int (0 : Int32))) (P8 : Exa Z h0 vb "[B") (P9 : Arv Z h0 vb kv .byte cp us (.int (0 : Int32))) (OLD : Old Z n0 h0) (P10 : Sta Z Z.heap "java/lang/String" "COMPACT_STRINGS" "Z" (.int zc)) (hzc : ¬ (zc = (0 : Int32))) (f1 : own_fit vs nn) (f2 : own_fit us cn) (hq : us.length + vs.length ≤ cp.toNatClampNeg) (gvb : n0 ≤ vb) :
    MetFree l (⟨"java/lang/AbstractStringBuilder", "putStringAt", "(ILjava/lang/String;)V"⟩ : MethodName) (head1 (Jvm.Cond.code (⟨"java/lang/AbstractStringBuilder", "putStringAt", "(ILjava/lang/String;)V"⟩ : MethodName) jdk_68_method_73_code 3 none :: ws) ({ frames := 2, cells := 0, slots := 0, locals := 33 } : Room)) (fun a U => a = #[(.ref sb), (.int cn), (.ref so)] ∧ Z.Warmed39 U.vm ∧ U.heap = h0) (fun _ _ _ _ _ => True) (fun _ U o U' => ∃ v L, o = .returned v ∧ Q_rmPut Z so tb kb nn vs sb vb kv cp us cn zc h0 n0 v U'.heap L ∧ FrameEnd U o U' L ({ frames := 2, cells := 0, slots := 0, locals := 33 } : Room).cells ({ frames := 2, cells := 0, slots := 0, locals := 33 } : Room).slots) := by
  refine MetFree.of_bodySF (plainFor_of_name pn_java_lang_AbstractStringBuilder) hisR ?_
  intro p e s m args below meth c s₁ Bd hml0 hP hK
  obtain ⟨rfl, hZ, hh⟩ := hP
  have hx := Bd.exec
  have hby := Bd.bytes
  have hml : c.maxLocals = 3 := hml0
  have hown : s.vm.findClass "java/lang/AbstractStringBuilder" = some m.cls := findClass_of_methodNamed Bd.named
  have hnm := (name_of_methodNamed Bd.named Bd.method).1
  have X0 : Stand p l e ({ frames := 2, cells := 0, slots := 0, locals := 33 } : Room) s m #[(.ref sb), (.int cn), (.ref so)] below meth c s₁ [] 0 0 := Stand.of_body Bd
  have e0 : s₁.heap = h0 := by rw [← hh, Bd.state]; rfl
  have N0 := Fr.nil n0
  have pre0 : ∀ t, Steps p.tables e below (s₁.setTop (mkF m 0 #[.val (.ref sb), .val (.int cn), .val (.ref so)] [])) t → Steps p.tables e below (s₁.setTop (entryFrame m #[(.ref sb), (.int cn), (.ref so)] 3)) t := fun t k => castTop (ef_rmPut m sb cn so) k
  have w_110 := hw _ (List.mem_of_getElem? (i := 110) rfl)
  have w_111 := hw _ (List.mem_of_getElem? (i := 111) rfl)
  have w_113 := hw _ (List.mem_of_getElem? (i := 113) rfl)
  have w_118 := hw _ (List.mem_of_getElem? (i := 118) rfl)
  have oz := OLD.1
  have lt_sb : sb < h0.size := P5.lt
  have lt_so : so < h0.size := P1.lt
  have lt_tb : tb < h0.size := P4.lt
  have lt_vb : vb < h0.size := P8.lt
  refine own_go (B := s₁.setTop (mkF m 0 #[.val (.ref sb), .val (.int cn), .val (.ref so)] [])) pre0 ?_
  show ∃ t o, Steps p.tables e below (s₁.setTop (mkF m 0 #[.val (.ref sb), .val (.int cn), .val (.ref so)] [])) t ∧ _
  refine own_go (fun _ => XS.aloadN X0.here hx rfl (hb hby d16_0) rfl rfl) ?_
  refine own_go (fun _ => XS.aloadN X0.here hx rfl (hb hby d16_1) rfl rfl) ?_
  show ∃ t o, Steps p.tables e below (s₁.setTop (mkF m 2 #[.val (.ref sb), .val (.int cn), .val (.ref so)] [(.ref so), (.ref sb)])) t ∧ _
  obtain ⟨cq11, q11, q11'⟩ := P5.cell
  obtain ⟨_, _, ⟨T11, L11, k11, n11⟩, -, X11, ⟨Lc11, hQ11, l11, y11, z11⟩, st11⟩ := X0.privateBack hx (y := (⟨"java/lang/AbstractStringBuilder", "inflateIfNeededFor", "(Ljava/lang/String;)V"⟩ : MethodName)) hown (mvT hZ (hw _ (List.mem_of_getElem? (i := 109) rfl))) (mvT hZ w_110) (mvT hZ (own_selp (y := (⟨"java/lang/AbstractStringBuilder", "inflateIfNeededFor", "(Ljava/lang/String;)V"⟩ : MethodName)) (hw _ (List.mem_of_getElem? (i := 76) rfl)) rfl w_111 w_110 (by decide))) (Cond.privateMethod_at (mvP hZ w_111 (args := #[]))) (mvT hZ w_113) (by decide) (backOf (W := 0) (rmInf l Z a0 hw [] sb so zc h0 n0 Z0 P5 P7 P1 P3 OLD P10 hzc) hZ w_113 (hw _ (List.mem_of_getElem? (i := 32) rfl)) (by decide) (by decide)) (g := (mkF m 2 #[.val (.ref sb), .val (.int cn), .val (.ref so)] [(.ref so), (.ref sb)])) rfl (by rw [hml]; rfl) (Steps.refl _) (a := sb) (by rw [e0]; exact q11) q11' (argsL := [(.ref so)]) (rest := []) (lenOf pd__28Ljava_2flang_2fString_3b_29V rfl) rfl (by show 2 * 0 + _ ≤ _; exact Nat.le_of_eq rfl) (hb hby d16_2) (fun _ _ => ⟨rfl, e0, (by decide : 0 + 0 ≤ _), (by decide : 0 + 0 ≤ _)⟩)
  dsimp only [Pt.U, Pt.locs, Pt.cells, Pt.slots] at X11 l11 y11 z11 st11 hQ11
  rw [l11, y11, z11] at X11
  obtain ⟨rfl, Nq11, e11⟩ := hQ11
  have N11 := Fr.app N0 Nq11
  refine own_goT st11 ?_
  refine own_go (fun _ => XS.aloadN X11.here hx rfl (hb hby d16_5) rfl rfl) ?_
  refine own_go (fun _ => XS.aloadN X11.here hx rfl (hb hby d16_6) rfl rfl) ?_
  obtain ⟨T12, X12, e12, st12⟩ := getF X11 hx hZ hown (host := "") (Or.inl (hw _ (List.mem_of_getElem? (i := 38) rfl))) Via.refl e11 P6 (g := (mkF m 7 #[.val (.ref sb), .val (.int cn), .val (.ref so)] [(.ref sb), (.ref so)])) rfl rfl (hb hby d16_7)
  refine own_go st12 ?_
  refine own_go (fun _ => XS.iloadN X12.here hx rfl (hb hby d16_10) rfl) ?_
  refine own_go (fun _ => XS.aloadN X12.here hx rfl (hb hby d16_11) rfl rfl) ?_
  obtain ⟨T13, X13, e13, st13⟩ := getF X12 hx hZ hown (host := "") (Or.inl (hw _ (List.mem_of_getElem? (i := 40) rfl))) Via.refl e12 P7 (g := (mkF m 12 #[.val (.ref sb), .val (.int cn), .val (.ref so)] [(.ref sb), (.int cn), (.ref vb), (.ref so)])) rfl rfl (hb hby d16_12)
  refine own_go st13 ?_
  show ∃ t o, Steps p.tables e below (T13.setTop (mkF m 15 #[.val (.ref sb), .val (.int cn), .val (.ref so)] [(.int (0 : Int32)), (.int cn), (.ref vb), (.ref so)])) t ∧ _
  obtain ⟨cq14, kq14, q14a, q14b, q14c⟩ := isOf hZ e13 P1
  obtain ⟨_, _, ⟨T14, L14, k14, n14⟩, -, X14, ⟨Lc14, hQ14, l14, y14, z14⟩, st14⟩ := X13.virtualBack hx (y := (⟨"java/lang/String", "getBytes", "([BIB)V"⟩ : MethodName)) (z := (⟨"java/lang/String", "getBytes", "([BIB)V"⟩ : MethodName)) hown (mvT hZ (hw _ (List.mem_of_getElem? (i := 115) rfl))) (mvT hZ (hw _ (List.mem_of_getElem? (i := 116) rfl))) (notFace_of_selects (args := #[]) (mvT hZ w_118)) (mvT hZ w_118) (mvT hZ (hw _ (List.mem_of_getElem? (i := 117) rfl))) (by decide) (backOf (W := 0) (rmGb l Z a0 hw [] so tb kb nn vs vb kv cp us cn zc h0 n0 Z0 P1 P2 P3 P4 P9 OLD P10 hzc f1 f2 hq gvb) hZ (hw _ (List.mem_of_getElem? (i := 119) rfl)) (hw _ (List.mem_of_getElem? (i := 36) rfl)) (by decide) (by decide)) q14a q14c (g := (mkF m 15 #[.val (.ref sb), .val (.int cn), .val (.ref so)] [(.int (0 : Int32)), (.int cn), (.ref vb), (.ref so)])) rfl (by rw [hml]; rfl) (Steps.refl _) (argsL := [(.ref vb), (.int cn), (.int (0 : Int32))]) (rest := []) (lenOf pd__28_5bBIB_29V rfl) rfl (by show 2 * 0 + _ ≤ _; exact Nat.le_of_eq rfl) (hb hby d16_15) (fun _ _ => ⟨rfl, e13, (by decide : 0 + 0 ≤ _), (by decide : 0 + 0 ≤ _)⟩)
  dsimp only [Pt.U, Pt.locs, Pt.cells, Pt.slots] at X14 l14 y14 z14 st14 hQ14
  rw [l14, y14, z14] at X14
  obtain ⟨rfl, Nq14, Kp14, G14_0⟩ := hQ14
  have N14 := Fr.app N11 Nq14
  refine own_goT st14 ?_
  have le_14 : h0.size ≤ T14.heap.size := Kp14.1
  have K14 : Keep h0 T14.heap [vb] := Keep.trans (Keep.refl h0 [vb]) Kp14 (allS (Or.inl (List.mem_of_getElem? (i := 0) rfl)) all0)
  show ∃ t o, Steps p.tables e below (T14.setTop (mkF m 18 #[.val (.ref sb), .val (.int cn), .val (.ref so)] [])) t ∧ _
  obtain ⟨fs, hr, hrun, hended, hW, hsame⟩ := X14.leave (v := none) (fun _ => rfl)
  refine ⟨_, _, ?_, hrun, hended, _, _, rfl, ?_, ⟨_, rfl⟩, hW, hsame.mono (by decide) (by decide)⟩
  · exact X14.returnOut hx Bd.returns (hb hby d16_18) hr
  · show Q_rmPut Z _ _ _ _ _ _ _ _ _ _ _ _ h0 n0 _ T14.heap _
    exact ⟨rfl, N14, K14, G14_0⟩
theorem ef_rmEns0 (m : MethodId) (x0 : Nat) (x1 : Int32) : entryFrame m #[(.ref x0), (.int x1)] 3 = mkF m 0 #[.val (.ref x0), .val (.int x1), .unset] [] := by first | (simp [entryFrame, mkF, argsToLocals, Value.category]; done) | rfl
def Q_rmEns0 (Z : State) (sb : Nat) (vb : Nat) (kv : ClassId) (cp : Int32) (us : List Value) (mn : Int32) (h0 : Heap) (n0 : Nat) (v : Option Value) (h : Heap) (L : List Loc) : Prop := v = none ∧ Fr n0 L ∧ h = h0
set_option maxRecDepth 65536 in
set_option maxHeartbeats 40000000 in
theorem rmEns0 (l : Launch) (Z : State) (a0 : Array Value) (hw : ∀ d ∈ tables_1, d.before a0 Z = true) (ws : List Jvm.Cond) (sb : Nat) (vb : Nat) (kv : ClassId) (cp : Int32) (us : List Value) (mn : Int32) (h0 : Heap) (n0 : Nat) (Z0 : n0 ≤ h0.size) (P1 : Exa Z h0 sb "java/lang/StringBuilder") (P2 : Fld Z h0 sb "java/lang/AbstractStringBuilder" "value" "[B" (.ref vb)) (P3 : Fld Z h0 sb "java/lang/AbstractStringBuilder" "coder" "B" (.int (0 : Int32))) (P4 : Exa Z h0 vb "[B") (P5 : Arv Z h0 vb kv .byte cp us (.int (0 : Int32))) (OLD : Old Z n0 h0) (hno : ¬ ((0 : Int32) < (mn - cp))) :
    MetFree l (⟨"java/lang/AbstractStringBuilder", "ensureCapacityInternal", "(I)V"⟩ : MethodName) (head1 (Jvm.Cond.code (⟨"java/lang/AbstractStringBuilder", "ensureCapacityInternal", "(I)V"⟩ : MethodName) jdk_68_method_9_code 3 none :: ws) ({ frames := 0, cells := 0, slots := 0, locals := 0 } : Room)) (fun a U => a = #[(.ref sb), (.int mn)] ∧ Z.Warmed39 U.vm ∧ U.heap = h0) (fun _ _ _ _ _ => True) (fun _ U o U' => ∃ v L, o = .returned v ∧ Q_rmEns0 Z sb vb kv cp us mn h0 n0 v U'.heap L ∧ FrameEnd U o U' L ({ frames := 0, cells := 0, slots := 0, locals := 0 } : Room).cells ({ frames := 0, cells := 0, slots := 0, locals := 0 } : Room).slots) := by
  refine MetFree.of_bodySF (plainFor_of_name pn_java_lang_AbstractStringBuilder) hisR ?_
  intro p e s m args below meth c s₁ Bd hml0 hP hK
  obtain ⟨rfl, hZ, hh⟩ := hP
  have hx := Bd.exec
  have hby := Bd.bytes
  have hml : c.maxLocals = 3 := hml0
  have hown : s.vm.findClass "java/lang/AbstractStringBuilder" = some m.cls := findClass_of_methodNamed Bd.named
  have hnm := (name_of_methodNamed Bd.named Bd.method).1
  have X0 : Stand p l e ({ frames := 0, cells := 0, slots := 0, locals := 0 } : Room) s m #[(.ref sb), (.int mn)] below meth c s₁ [] 0 0 := Stand.of_body Bd
  have e0 : s₁.heap = h0 := by rw [← hh, Bd.state]; rfl
  have N0 := Fr.nil n0
  have pre0 : ∀ t, Steps p.tables e below (s₁.setTop (mkF m 0 #[.val (.ref sb), .val (.int mn), .unset] [])) t → Steps p.tables e below (s₁.setTop (entryFrame m #[(.ref sb), (.int mn)] 3)) t := fun t k => castTop (ef_rmEns0 m sb mn) k
  have oz := OLD.1
  have lt_sb : sb < h0.size := P1.lt
  have lt_vb : vb < h0.size := P4.lt
  refine own_go (B := s₁.setTop (mkF m 0 #[.val (.ref sb), .val (.int mn), .unset] [])) pre0 ?_
  show ∃ t o, Steps p.tables e below (s₁.setTop (mkF m 0 #[.val (.ref sb), .val (.int mn), .unset] [])) t ∧ _
  refine own_go (fun _ => XS.aloadN X0.here hx rfl (hb hby d10_0) rfl rfl) ?_
  obtain ⟨T6, X6, e6, st6⟩ := getF X0 hx hZ hown (host := "") (Or.inl (hw _ (List.mem_of_getElem? (i := 38) rfl))) Via.refl e0 P2 (g := (mkF m 1 #[.val (.ref sb), .val (.int mn), .unset] [(.ref sb)])) rfl rfl (hb hby d10_1)
  refine own_go st6 ?_
  obtain ⟨cl7, Ar7, q7, S7, N7, H7, G7⟩ := id P5
  have ln7 : cl7.slots.size.toInt32 = cp := len_of S7 N7
  have al7 := X6.arraylength hx (by rw [e6]; exact Ar7.1) (State.isArrayOf_alike hZ.alike Ar7.2.1) (g := (mkF m 4 #[.val (.ref sb), .val (.int mn), .unset] [(.ref vb)])) rfl rfl (hb hby d10_4)
  rw [ln7] at al7
  refine own_go al7 ?_
  refine own_go (fun _ => XS.aloadN X6.here hx rfl (hb hby d10_5) rfl rfl) ?_
  obtain ⟨T8, X8, e8, st8⟩ := getF X6 hx hZ hown (host := "") (Or.inl (hw _ (List.mem_of_getElem? (i := 40) rfl))) Via.refl e6 P3 (g := (mkF m 6 #[.val (.ref sb), .val (.int mn), .unset] [(.ref sb), (.int cp)])) rfl rfl (hb hby d10_6)
  refine own_go st8 ?_
  refine own_go (fun _ => XS.ishr X8.here hx rfl (hb hby d10_9) rfl) ?_
  show ∃ t o, Steps p.tables e below (T8.setTop (mkF m 10 #[.val (.ref sb), .val (.int mn), .unset] [(.int (cp >>> ((0 : Int32) &&& 31)))])) t ∧ _
  rw [own_shr0]
  show ∃ t o, Steps p.tables e below (T8.setTop (mkF m 10 #[.val (.ref sb), .val (.int mn), .unset] [(.int cp)])) t ∧ _
  refine own_go (fun _ => XS.istoreN X8.here hx rfl (hb hby d10_10) rfl (l' := #[.val (.ref sb), .val (.int mn), .val (.int cp)]) rfl) ?_
  refine own_go (fun _ => XS.iloadN X8.here hx rfl (hb hby d10_11) rfl) ?_
  refine own_go (fun _ => XS.iloadN X8.here hx rfl (hb hby d10_12) rfl) ?_
  refine own_go (fun _ => XS.isub X8.here hx rfl (hb hby d10_13) rfl) ?_
  show ∃ t o, Steps p.tables e below (T8.setTop (mkF m 14 #[.val (.ref sb), .val (.int mn), .val (.int cp)] [(.int (mn - cp))])) t ∧ _
  refine own_go (fun _ => XS.ifYes X8.here hx rfl (pc0 := 14) (pc' := 38) rfl (hb hby d10_14) rfl ((if0 _ _).trans (flt hno).2.2.2) (by decide) (by decide)) ?_
  show ∃ t o, Steps p.tables e below (T8.setTop (mkF m 38 #[.val (.ref sb), .val (.int mn), .val (.int cp)] [])) t ∧ _
  obtain ⟨fs, hr, hrun, hended, hW, hsame⟩ := X8.leave (v := none) (fun _ => rfl)
  refine ⟨_, _, ?_, hrun, hended, _, _, rfl, ?_, ⟨_, rfl⟩, hW, hsame.mono (by decide) (by decide)⟩
  · exact X8.returnOut hx Bd.returns (hb hby d10_38) hr
  · show Q_rmEns0 Z _ _ _ _ _ _ h0 n0 _ T8.heap _
    rw [e8]
    exact ⟨rfl, N0, rfl⟩
theorem ef_rmABa (m : MethodId) (x0 : Nat) (x1 : Nat) : entryFrame m #[(.ref x0), (.ref x1)] 3 = mkF m 0 #[.val (.ref x0), .val (.ref x1), .unset] [] := by first | (simp [entryFrame, mkF, argsToLocals, Value.category]; done) | rfl
theorem d7_0 : decode jdk_68_method_22_code 0 = .ok (.aload_n 1, 1) := by decide +kernel
theorem d7_1 : decode jdk_68_method_22_code 1 = .ok (.ifnonnull 8, 3) := by decide +kernel
theorem d7_9 : decode jdk_68_method_22_code 9 = .ok (.aload_n 1, 1) := by decide +kernel
theorem d7_10 : decode jdk_68_method_22_code 10 = .ok (.invokevirtual 32, 3) := by decide +kernel
theorem pd__28_29I : parseMethodDescriptor "()I" = some ⟨[], some .int⟩ := by decide +kernel
theorem d7_13 : decode jdk_68_method_22_code 13 = .ok (.istore_n 2, 1) := by decide +kernel
theorem d7_14 : decode jdk_68_method_22_code 14 = .ok (.aload_n 0, 1) := by decide +kernel
theorem d7_15 : decode jdk_68_method_22_code 15 = .ok (.aload_n 0, 1) := by decide +kernel
theorem d7_16 : decode jdk_68_method_22_code 16 = .ok (.getfield 79, 3) := by decide +kernel
theorem d7_19 : decode jdk_68_method_22_code 19 = .ok (.iload_n 2, 1) := by decide +kernel
theorem d7_20 : decode jdk_68_method_22_code 20 = .ok (.iadd, 1) := by decide +kernel
theorem d7_21 : decode jdk_68_method_22_code 21 = .ok (.invokevirtual 100, 3) := by decide +kernel
theorem d7_24 : decode jdk_68_method_22_code 24 = .ok (.aload_n 0, 1) := by decide +kernel
theorem d7_25 : decode jdk_68_method_22_code 25 = .ok (.aload_n 0, 1) := by decide +kernel
theorem d7_26 : decode jdk_68_method_22_code 26 = .ok (.getfield 79, 3) := by decide +kernel
theorem d7_29 : decode jdk_68_method_22_code 29 = .ok (.aload_n 1, 1) := by decide +kernel
theorem d7_30 : decode jdk_68_method_22_code 30 = .ok (.invokevirtual 208, 3) := by decide +kernel
theorem pd__28ILjava_2flang_2fString_3b_29V : parseMethodDescriptor "(ILjava/lang/String;)V" = some ⟨[.int, (.object "java/lang/String")], none⟩ := by decide +kernel
theorem d7_33 : decode jdk_68_method_22_code 33 = .ok (.aload_n 0, 1) := by decide +kernel
theorem d7_34 : decode jdk_68_method_22_code 34 = .ok (.dup, 1) := by decide +kernel
theorem d7_35 : decode jdk_68_method_22_code 35 = .ok (.getfield 79, 3) := by decide +kernel
theorem d7_38 : decode jdk_68_method_22_code 38 = .ok (.iload_n 2, 1) := by decide +kernel
theorem d7_39 : decode jdk_68_method_22_code 39 = .ok (.iadd, 1) := by decide +kernel
theorem d7_40 : decode jdk_68_method_22_code 40 = .ok (.putfield 79, 3) := by decide +kernel
theorem d7_43 : decode jdk_68_method_22_code 43 = .ok (.aload_n 0, 1) := by decide +kernel
theorem d7_44 : decode jdk_68_method_22_code 44 = .ok (.areturn, 1) := by decide +kernel
def Q_rmABa (Z : State) (so : Nat) (tb : Nat) (kb : ClassId) (nn : Int32) (vs : List Value) (sb : Nat) (vb : Nat) (kv : ClassId) (cp : Int32) (us : List Value) (cn : Int32) (zc : Int32) (h0 : Heap) (n0 : Nat) (v : Option Value) (h : Heap) (L : List Loc) : Prop := ∃ (vb2 : Nat), ∃ (kv2 : ClassId), ∃ (cp2 : Int32), v = some (.ref sb) ∧ Fr n0 L ∧ Keep h0 h [sb, vb] ∧ Exa Z h sb "java/lang/StringBuilder" ∧ Fld Z h sb "java/lang/AbstractStringBuilder" "value" "[B" (.ref vb2) ∧ Fld Z h sb "java/lang/AbstractStringBuilder" "coder" "B" (.int (0 : Int32)) ∧ Fld Z h sb "java/lang/AbstractStringBuilder" "count" "I" (.int (cn + nn)) ∧ Exa Z h vb2 "[B" ∧ Arv Z h vb2 kv2 .byte cp2 (us ++ vs) (.int (0 : Int32)) ∧ (own_cap (us ++ vs) cp2) ∧ (vb2 = vb ∨ h0.size ≤ vb2) ∧ (sb ≠ vb2) ∧ (n0 ≤ vb2)
set_option maxRecDepth 65536 in
set_option maxHeartbeats 40000000 in
theorem rmABa (l : Launch) (Z : State) (a0 : Array Value) (hw : ∀ d ∈ tables_1, d.before a0 Z = true) (ws : List Jvm.Cond) (so : Nat) (tb : Nat) (kb : ClassId) (nn : Int32) (vs : List Value) (sb : Nat) (vb : Nat) (kv : ClassId) (cp : Int32) (us : List Value) (cn : Int32) (zc : Int32) (h0 : Heap) (n0 : Nat) (Z0 : n0 ≤ h0.size) (P1 : Exa Z h0 so "java/lang/String") (P2 : Fld Z h0 so "java/lang/String" "value" "[B" (.ref tb)) (P3 : Fld Z h0 so "java/lang/String" "coder" "B" (.int (0 : Int32))) (P4 : Arv Z h0 tb kb .byte nn vs (.int (0 : Int32))) (P5 : Exa Z h0 sb "java/lang/StringBuilder") (P6 : Fld Z h0 sb "java/lang/AbstractStringBuilder" "value" "[B" (.ref vb)) (P7 : Fld Z h0 sb "java/lang/AbstractStringBuilder" "coder" "B" (.int (0 : Int32))) (P8 : Fld Z h0 sb "java/lang/AbstractStringBuilder" "count" "I" (.int cn)) (P9 : Exa Z h0 vb "[B") (P10 : Arv Z h0 vb kv .byte cp us (.int (0 : Int32))) (OLD : Old Z n0 h0) (P11 : Sta Z Z.heap "java/lang/String" "COMPACT_STRINGS" "Z" (.int zc)) (hzc : ¬ (zc = (0 : Int32))) (f1 : own_fit vs nn) (f2 : own_fit us cn) (hl : us.length + vs.length ≤ 125) (hl2 : ((us.length + vs.length : Nat) : Int) ≤ 2 * cp.toInt + 2) (hcp : own_cap us cp) (gsb : n0 ≤ sb) (gvb : n0 ≤ vb) (hne : sb ≠ vb) (hso : so ≠ sb) (htb : tb ≠ sb) :
    MetFree l (⟨"java/lang/AbstractStringBuilder", "append", "(Ljava/lang/String;)Ljava/lang/AbstractStringBuilder;"⟩ : MethodName) (head1 (Jvm.Cond.code (⟨"java/lang/AbstractStringBuilder", "append", "(Ljava/lang/String;)Ljava/lang/AbstractStringBuilder;"⟩ : MethodName) jdk_68_method_22_code 3 (some (.object "java/lang/AbstractStringBuilder")) :: ws) ({ frames := 4, cells := 1, slots := 142, locals := 62 } : Room)) (fun a U => a = #[(.ref sb), (.ref so)] ∧ Z.Warmed39 U.vm ∧ U.heap = h0) (fun _ _ _ _ _ => True) (fun _ U o U' => ∃ v L, o = .returned v ∧ Q_rmABa Z so tb kb nn vs sb vb kv cp us cn zc h0 n0 v U'.heap L ∧ FrameEnd U o U' L ({ frames := 4, cells := 1, slots := 142, locals := 62 } : Room).cells ({ frames := 4, cells := 1, slots := 142, locals := 62 } : Room).slots) := by
  refine MetFree.of_bodySF (plainFor_of_name pn_java_lang_AbstractStringBuilder) hisR ?_
  intro p e s m args below meth c s₁ Bd hml0 hP hK
  obtain ⟨rfl, hZ, hh⟩ := hP
  have hx := Bd.exec
  have hby := Bd.bytes
  have hml : c.maxLocals = 3 := hml0
  have hown : s.vm.findClass "java/lang/AbstractStringBuilder" = some m.cls := findClass_of_methodNamed Bd.named
  have hnm := (name_of_methodNamed Bd.named Bd.method).1
  have X0 : Stand p l e ({ frames := 4, cells := 1, slots := 142, locals := 62 } : Room) s m #[(.ref sb), (.ref so)] below meth c s₁ [] 0 0 := Stand.of_body Bd
  have e0 : s₁.heap = h0 := by rw [← hh, Bd.state]; rfl
  have N0 := Fr.nil n0
  have pre0 : ∀ t, Steps p.tables e below (s₁.setTop (mkF m 0 #[.val (.ref sb), .val (.ref so), .unset] [])) t → Steps p.tables e below (s₁.setTop (entryFrame m #[(.ref sb), (.ref so)] 3)) t := fun t k => castTop (ef_rmABa m sb so) k
  have w_105 := hw _ (List.mem_of_getElem? (i := 105) rfl)
  have w_106 := hw _ (List.mem_of_getElem? (i := 106) rfl)
  have w_108 := hw _ (List.mem_of_getElem? (i := 108) rfl)
  have w_32 := hw _ (List.mem_of_getElem? (i := 32) rfl)
  have w_61 := hw _ (List.mem_of_getElem? (i := 61) rfl)
  have w_71 := hw _ (List.mem_of_getElem? (i := 71) rfl)
  have w_72 := hw _ (List.mem_of_getElem? (i := 72) rfl)
  have w_74 := hw _ (List.mem_of_getElem? (i := 74) rfl)
  have w_75 := hw _ (List.mem_of_getElem? (i := 75) rfl)
  have w_76 := hw _ (List.mem_of_getElem? (i := 76) rfl)
  have w_77 := hw _ (List.mem_of_getElem? (i := 77) rfl)
  have oz := OLD.1
  have lt_sb : sb < h0.size := P5.lt
  have lt_so : so < h0.size := P1.lt
  have lt_tb : tb < h0.size := P4.lt
  have lt_vb : vb < h0.size := P9.lt
  refine own_go (B := s₁.setTop (mkF m 0 #[.val (.ref sb), .val (.ref so), .unset] [])) pre0 ?_
  show ∃ t o, Steps p.tables e below (s₁.setTop (mkF m 0 #[.val (.ref sb), .val (.ref so), .unset] [])) t ∧ _
  refine own_go (fun _ => XS.aloadN X0.here hx rfl (hb hby d7_0) rfl rfl) ?_
  show ∃ t o, Steps p.tables e below (s₁.setTop (mkF m 1 #[.val (.ref sb), .val (.ref so), .unset] [(.ref so)])) t ∧ _
  refine own_go (fun _ => XS.ifnonnullYes X0.here hx rfl (pc0 := 1) (pc' := 9) rfl (hb hby d7_1) rfl (by decide) (by decide)) ?_
  refine own_go (fun _ => XS.aloadN X0.here hx rfl (hb hby d7_9) rfl rfl) ?_
  show ∃ t o, Steps p.tables e below (s₁.setTop (mkF m 10 #[.val (.ref sb), .val (.ref so), .unset] [(.ref so)])) t ∧ _
  obtain ⟨cq12, kq12, q12a, q12b, q12c⟩ := isOf hZ e0 P1
  obtain ⟨_, _, ⟨T12, L12, k12, n12⟩, -, X12, ⟨Lc12, hQ12, l12, y12, z12⟩, st12⟩ := X0.virtualBack hx (y := (⟨"java/lang/String", "length", "()I"⟩ : MethodName)) (z := (⟨"java/lang/String", "length", "()I"⟩ : MethodName)) hown (mvT hZ (hw _ (List.mem_of_getElem? (i := 58) rfl))) (mvT hZ (hw _ (List.mem_of_getElem? (i := 59) rfl))) (notFace_of_selects (args := #[]) (mvT hZ w_61)) (mvT hZ w_61) (mvT hZ (hw _ (List.mem_of_getElem? (i := 60) rfl))) (by decide) (backOf (W := 0) (rmLenG l Z a0 hw [] so tb kb nn vs zc h0 n0 Z0 P1 P2 P3 P4 OLD P11 hzc) hZ (hw _ (List.mem_of_getElem? (i := 62) rfl)) (hw _ (List.mem_of_getElem? (i := 36) rfl)) (by decide) (by decide)) q12a q12c (g := (mkF m 10 #[.val (.ref sb), .val (.ref so), .unset] [(.ref so)])) rfl (by rw [hml]; rfl) (Steps.refl _) (argsL := []) (rest := []) (lenOf pd__28_29I rfl) rfl (by show 2 * 0 + _ ≤ _; exact Nat.le_of_eq rfl) (hb hby d7_10) (fun _ _ => ⟨rfl, e0, (by decide : 0 + 0 ≤ _), (by decide : 0 + 0 ≤ _)⟩)
  dsimp only [Pt.U, Pt.locs, Pt.cells, Pt.slots] at X12 l12 y12 z12 st12 hQ12
  rw [l12, y12, z12] at X12
  obtain ⟨rfl, Nq12, e12⟩ := hQ12
  have N12 := Fr.app N0 Nq12
  refine own_goT st12 ?_
  refine own_go (fun _ => XS.istoreN X12.here hx rfl (hb hby d7_13) rfl (l' := #[.val (.ref sb), .val (.ref so), .val (.int nn)]) rfl) ?_
  refine own_go (fun _ => XS.aloadN X12.here hx rfl (hb hby d7_14) rfl rfl) ?_
  refine own_go (fun _ => XS.aloadN X12.here hx rfl (hb hby d7_15) rfl rfl) ?_
  obtain ⟨T13, X13, e13, st13⟩ := getF X12 hx hZ hown (host := "") (Or.inl w_71) Via.refl e12 P8 (g := (mkF m 16 #[.val (.ref sb), .val (.ref so), .val (.int nn)] [(.ref sb), (.ref sb)])) rfl rfl (hb hby d7_16)
  refine own_go st13 ?_
  refine own_go (fun _ => XS.iloadN X13.here hx rfl (hb hby d7_19) rfl) ?_
  refine own_go (fun _ => XS.iadd X13.here hx rfl (hb hby d7_20) rfl) ?_
  show ∃ t o, Steps p.tables e below (T13.setTop (mkF m 21 #[.val (.ref sb), .val (.ref so), .val (.int nn)] [(.int (cn + nn)), (.ref sb)])) t ∧ _
  obtain ⟨cq14, q14, q14'⟩ := P5.cell
  obtain ⟨_, _, ⟨T14, L14, k14, n14⟩, -, X14, ⟨Lc14, hQ14, l14, y14, z14⟩, st14⟩ := X13.privateBack hx (y := (⟨"java/lang/AbstractStringBuilder", "ensureCapacityInternal", "(I)V"⟩ : MethodName)) hown (mvT hZ (hw _ (List.mem_of_getElem? (i := 73) rfl))) (mvT hZ w_74) (mvT hZ (own_selp (y := (⟨"java/lang/AbstractStringBuilder", "ensureCapacityInternal", "(I)V"⟩ : MethodName)) w_76 rfl w_75 w_74 (by decide))) (Cond.privateMethod_at (mvP hZ w_75 (args := #[]))) (mvT hZ w_77) (by decide) (backOf (W := 0) (rmEns l Z a0 hw [] sb vb kv cp us cn (cn + nn) h0 n0 Z0 P5 P6 P7 P8 P9 P10 OLD (own_mn_of f2 f1 hl hl2 : own_mn (cn + nn) cp) hcp gsb gvb hne) hZ w_77 w_32 (by decide) (by decide)) (g := (mkF m 21 #[.val (.ref sb), .val (.ref so), .val (.int nn)] [(.int (cn + nn)), (.ref sb)])) rfl (by rw [hml]; rfl) (Steps.refl _) (a := sb) (by rw [e13]; exact q14) q14' (argsL := [(.int (cn + nn))]) (rest := []) (lenOf pd__28I_29V rfl) rfl (by show 2 * 0 + _ ≤ _; exact Nat.le_of_eq rfl) (hb hby d7_21) (fun _ _ => ⟨rfl, e13, (by decide : 0 + 1 ≤ _), (by decide : 0 + 142 ≤ _)⟩)
  dsimp only [Pt.U, Pt.locs, Pt.cells, Pt.slots] at X14 l14 y14 z14 st14 hQ14
  rw [l14, y14, z14] at X14
  obtain ⟨vb2_14, kv2_14, cp2_14, rfl, Nq14, Kp14, G14_0, G14_1, G14_2, G14_3, G14_4, G14_5, H14_0, H14_1, H14_2, H14_3, H14_4⟩ := hQ14
  have N14 := Fr.app N12 Nq14
  refine own_goT st14 ?_
  have le_14 : h0.size ≤ T14.heap.size := Kp14.1
  have K14 : Keep h0 T14.heap [sb, vb] := Keep.trans (Keep.refl h0 [sb, vb]) Kp14 (allS (Or.inl (List.mem_of_getElem? (i := 0) rfl)) all0)
  have lt_vb2_14 : vb2_14 < T14.heap.size := (G14_4).lt
  have kp15 := own_kp (sb := sb) H14_2
  refine own_go (fun _ => XS.aloadN X14.here hx rfl (hb hby d7_24) rfl rfl) ?_
  refine own_go (fun _ => XS.aloadN X14.here hx rfl (hb hby d7_25) rfl rfl) ?_
  obtain ⟨T16, X16, e16, st16⟩ := getF X14 hx hZ hown (host := "") (Or.inl w_71) Via.refl rfl G14_3 (g := (mkF m 26 #[.val (.ref sb), .val (.ref so), .val (.int nn)] [(.ref sb), (.ref sb)])) rfl rfl (hb hby d7_26)
  refine own_go st16 ?_
  refine own_go (fun _ => XS.aloadN X16.here hx rfl (hb hby d7_29) rfl rfl) ?_
  show ∃ t o, Steps p.tables e below (T16.setTop (mkF m 30 #[.val (.ref sb), .val (.ref so), .val (.int nn)] [(.ref so), (.int cn), (.ref sb)])) t ∧ _
  have F17 := (Exa.keep P1 Kp14)
  have F18 := (Fld.keep P2 Kp14 (ninS hso nin0))
  have F19 := (Fld.keep P3 Kp14 (ninS hso nin0))
  have F20 := (Arv.keep P4 Kp14 (ninS htb nin0))
  have F21 := (Old.keep OLD Kp14 (allS gsb all0))
  have zl22 : n0 ≤ T14.heap.size := by omega
  obtain ⟨cq23, q23, q23'⟩ := G14_0.cell
  obtain ⟨_, _, ⟨T23, L23, k23, n23⟩, -, X23, ⟨Lc23, hQ23, l23, y23, z23⟩, st23⟩ := X16.privateBack hx (y := (⟨"java/lang/AbstractStringBuilder", "putStringAt", "(ILjava/lang/String;)V"⟩ : MethodName)) hown (mvT hZ (hw _ (List.mem_of_getElem? (i := 104) rfl))) (mvT hZ w_105) (mvT hZ (own_selp (y := (⟨"java/lang/AbstractStringBuilder", "putStringAt", "(ILjava/lang/String;)V"⟩ : MethodName)) w_76 rfl w_106 w_105 (by decide))) (Cond.privateMethod_at (mvP hZ w_106 (args := #[]))) (mvT hZ w_108) (by decide) (backOf (W := 0) (rmPut l Z a0 hw [] so tb kb nn vs sb vb2_14 kv2_14 cp2_14 us cn zc T14.heap n0 zl22 F17 F18 F19 F20 G14_0 G14_1 G14_2 G14_4 G14_5 F21 P11 hzc f1 f2 (own_room f2 f1 hl H14_1 : us.length + vs.length ≤ cp2_14.toNatClampNeg) H14_4) hZ w_108 w_32 (by decide) (by decide)) (g := (mkF m 30 #[.val (.ref sb), .val (.ref so), .val (.int nn)] [(.ref so), (.int cn), (.ref sb)])) rfl (by rw [hml]; rfl) (Steps.refl _) (a := sb) (by rw [e16]; exact q23) q23' (argsL := [(.int cn), (.ref so)]) (rest := []) (lenOf pd__28ILjava_2flang_2fString_3b_29V rfl) rfl (by show 2 * 0 + _ ≤ _; exact Nat.le_of_eq rfl) (hb hby d7_30) (fun _ _ => ⟨rfl, e16, (by decide : 1 + 0 ≤ _), (by decide : 142 + 0 ≤ _)⟩)
  dsimp only [Pt.U, Pt.locs, Pt.cells, Pt.slots] at X23 l23 y23 z23 st23 hQ23
  rw [l23, y23, z23] at X23
  obtain ⟨rfl, Nq23, Kp23, G23_0⟩ := hQ23
  have N23 := Fr.app N14 Nq23
  refine own_goT st23 ?_
  have le_23 : T14.heap.size ≤ T23.heap.size := Kp23.1
  have K23 : Keep h0 T23.heap [sb, vb] := Keep.trans K14 Kp23 (allS (kp15) all0)
  refine own_go (fun _ => XS.aloadN X23.here hx rfl (hb hby d7_33) rfl rfl) ?_
  refine own_go (fun _ => XS.dup X23.here hx rfl (hb hby d7_34) rfl rfl) ?_
  have F24 := (Fld.keep G14_3 Kp23 (ninS H14_3 nin0))
  obtain ⟨T25, X25, e25, st25⟩ := getF X23 hx hZ hown (host := "") (Or.inl w_71) Via.refl rfl F24 (g := (mkF m 35 #[.val (.ref sb), .val (.ref so), .val (.int nn)] [(.ref sb), (.ref sb)])) rfl rfl (hb hby d7_35)
  refine own_go st25 ?_
  refine own_go (fun _ => XS.iloadN X25.here hx rfl (hb hby d7_38) rfl) ?_
  refine own_go (fun _ => XS.iadd X25.here hx rfl (hb hby d7_39) rfl) ?_
  have F26 := (Exa.keep G14_0 Kp23)
  obtain ⟨T27, h27, X27, e27, W27, st27⟩ := putF X25 hx hZ hown (host := "") (Or.inl w_71) Via.refl e25 F24 F26 (Or.inl w_72) (hw _ (List.mem_of_getElem? (i := 23) rfl)) (ty := .int) (by decide) rfl rfl (g := (mkF m 40 #[.val (.ref sb), .val (.ref so), .val (.int nn)] [(.int (cn + nn)), (.ref sb)])) rfl rfl (hb hby d7_40)
  refine own_go st27 ?_
  have le_27 : T23.heap.size ≤ h27.size := Nat.le_of_eq W27.size.symm
  have K27 : Keep h0 h27 [sb, vb] := Keep.wr K23 W27 (Or.inl (List.mem_of_getElem? (i := 0) rfl))
  have N27 := Fr.snoc X27 N23 gsb
  have Fw27 := Fld.same W27 F24
  refine own_go (fun _ => XS.aloadN X27.here hx rfl (hb hby d7_43) rfl rfl) ?_
  show ∃ t o, Steps p.tables e below (T27.setTop (mkF m 44 #[.val (.ref sb), .val (.ref so), .val (.int nn)] [(.ref sb)])) t ∧ _
  have F28 := (Exa.wr W27 F26)
  have F29 := (Fld.other W27 (Fld.keep G14_1 Kp23 (ninS H14_3 nin0)) (Or.inr (slot_ne (a0 := a0) (Or.inl (hw _ (List.mem_of_getElem? (i := 39) rfl))) (Or.inl w_72) (by decide) (t := (.array .byte)) (t' := .int) (by decide) (by decide))))
  have F30 := (Fld.other W27 (Fld.keep G14_2 Kp23 (ninS H14_3 nin0)) (Or.inr (slot_ne (a0 := a0) (Or.inl (hw _ (List.mem_of_getElem? (i := 41) rfl))) (Or.inl w_72) (by decide) (t := .byte) (t' := .int) (by decide) (by decide))))
  have F31 := (Exa.wr W27 (Exa.keep G14_4 Kp23))
  have ne32 : vb2_14 ≠ sb := own_ne (by omega)
  have F33 := (Arv.other G23_0 W27 ne32)
  obtain ⟨fs, hr, hrun, hended, hW, hsame⟩ := X27.leave (v := some (.ref sb)) (fun h => by rw [Bd.returns] at h; cases h)
  refine ⟨_, _, ?_, hrun, hended, _, _, rfl, ?_, ⟨_, rfl⟩, hW, hsame.mono (by decide) (by decide)⟩
  · jvm_step X27.here [X27.here.top, hx, (hb hby d7_44), X27.method', Bd.returns, Value.isRef, FieldType.isReference]
    first | (intro acts; rw [hr _ acts rfl rfl rfl]) | rw [hr _ _ rfl rfl rfl]
    exact Steps.refl _
  · show Q_rmABa Z _ _ _ _ _ _ _ _ _ _ _ _ h0 n0 _ T27.heap _
    rw [e27]
    exact ⟨vb2_14, kv2_14, cp2_14, rfl, N27, K27, F28, F29, F30, Fw27, F31, F33, (own_cap.app H14_0 (own_room f2 f1 hl H14_1)), H14_2, H14_3, H14_4⟩
theorem ef_rmSBa (m : MethodId) (x0 : Nat) (x1 : Nat) : entryFrame m #[(.ref x0), (.ref x1)] 2 = mkF m 0 #[.val (.ref x0), .val (.ref x1)] [] := by first | (simp [entryFrame, mkF, argsToLocals, Value.category]; done) | rfl
theorem d6_0 : decode jdk_67_method_7_code 0 = .ok (.aload_n 0, 1) := by decide +kernel
theorem d6_1 : decode jdk_67_method_7_code 1 = .ok (.aload_n 1, 1) := by decide +kernel
theorem d6_2 : decode jdk_67_method_7_code 2 = .ok (.invokespecial 29, 3) := by decide +kernel
theorem pd_h496c0e57 : parseMethodDescriptor "(Ljava/lang/String;)Ljava/lang/AbstractStringBuilder;" = some ⟨[(.object "java/lang/String")], some (.object "java/lang/AbstractStringBuilder")⟩ := by decide +kernel
theorem d6_5 : decode jdk_67_method_7_code 5 = .ok (.pop, 1) := by decide +kernel
theorem d6_6 : decode jdk_67_method_7_code 6 = .ok (.aload_n 0, 1) := by decide +kernel
theorem d6_7 : decode jdk_67_method_7_code 7 = .ok (.areturn, 1) := by decide +kernel
def Q_rmSBa (Z : State) (so : Nat) (tb : Nat) (kb : ClassId) (nn : Int32) (vs : List Value) (sb : Nat) (vb : Nat) (kv : ClassId) (cp : Int32) (us : List Value) (cn : Int32) (zc : Int32) (h0 : Heap) (n0 : Nat) (v : Option Value) (h : Heap) (L : List Loc) : Prop := ∃ (vb2 : Nat), ∃ (kv2 : ClassId), ∃ (cp2 : Int32), v = some (.ref sb) ∧ Fr n0 L ∧ Keep h0 h [sb, vb] ∧ Exa Z h sb "java/lang/StringBuilder" ∧ Fld Z h sb "java/lang/AbstractStringBuilder" "value" "[B" (.ref vb2) ∧ Fld Z h sb "java/lang/AbstractStringBuilder" "coder" "B" (.int (0 : Int32)) ∧ Fld Z h sb "java/lang/AbstractStringBuilder" "count" "I" (.int (cn + nn)) ∧ Exa Z h vb2 "[B" ∧ Arv Z h vb2 kv2 .byte cp2 (us ++ vs) (.int (0 : Int32)) ∧ (own_cap (us ++ vs) cp2) ∧ (vb2 = vb ∨ h0.size ≤ vb2) ∧ (sb ≠ vb2) ∧ (n0 ≤ vb2)
set_option maxRecDepth 65536 in
set_option maxHeartbeats 40000000 in
theorem rmSBa (l : Launch) (Z : State) (a0 : Array Value) (hw : ∀ d ∈ tables_1, d.before a0 Z = true) (ws : List Jvm.Cond) (so : Nat) (tb : Nat) (kb : ClassId) (nn : Int32) (vs : List Value) (sb : Nat) (vb : Nat) (kv : ClassId) (cp : Int32) (us : List Value) (cn : Int32) (zc : Int32) (h0 : Heap) (n0 : Nat) (Z0 : n0 ≤ h0.size) (P1 : Exa Z h0 so "java/lang/String") (P2 : Fld Z h0 so "java/lang/String" "value" "[B" (.ref tb)) (P3 : Fld Z h0 so "java/lang/String" "coder" "B" (.int (0 : Int32))) (P4 : Arv Z h0 tb kb .byte nn vs (.int (0 : Int32))) (P5 : Exa Z h0 sb "java/lang/StringBuilder") (P6 : Fld Z h0 sb "java/lang/AbstractStringBuilder" "value" "[B" (.ref vb)) (P7 : Fld Z h0 sb "java/lang/AbstractStringBuilder" "coder" "B" (.int (0 : Int32))) (P8 : Fld Z h0 sb "java/lang/AbstractStringBuilder" "count" "I" (.int cn)) (P9 : Exa Z h0 vb "[B") (P10 : Arv Z h0 vb kv .byte cp us (.int (0 : Int32))) (OLD : Old Z n0 h0) (P11 : Sta Z Z.heap "java/lang/String" "COMPACT_STRINGS" "Z" (.int zc)) (hzc : ¬ (zc = (0 : Int32))) (f1 : own_fit vs nn) (f2 : own_fit us cn) (hl : us.length + vs.length ≤ 125) (hl2 : ((us.length + vs.length : Nat) : Int) ≤ 2 * cp.toInt + 2) (hcp : own_cap us cp) (gsb : n0 ≤ sb) (gvb : n0 ≤ vb) (hne : sb ≠ vb) (hso : so ≠ sb) (htb : tb ≠ sb) :
    MetFree l (⟨"java/lang/StringBuilder", "append", "(Ljava/lang/String;)Ljava/lang/StringBuilder;"⟩ : MethodName) (head1 (Jvm.Cond.code (⟨"java/lang/StringBuilder", "append", "(Ljava/lang/String;)Ljava/lang/StringBuilder;"⟩ : MethodName) jdk_67_method_7_code 2 (some (.object "java/lang/StringBuilder")) :: ws) ({ frames := 5, cells := 1, slots := 142, locals := 76 } : Room)) (fun a U => a = #[(.ref sb), (.ref so)] ∧ Z.Warmed39 U.vm ∧ U.heap = h0) (fun _ _ _ _ _ => True) (fun _ U o U' => ∃ v L, o = .returned v ∧ Q_rmSBa Z so tb kb nn vs sb vb kv cp us cn zc h0 n0 v U'.heap L ∧ FrameEnd U o U' L ({ frames := 5, cells := 1, slots := 142, locals := 76 } : Room).cells ({ frames := 5, cells := 1, slots := 142, locals := 76 } : Room).slots) := by
  refine MetFree.of_bodySF (plainFor_of_name pn_java_lang_StringBuilder) hisR ?_
  intro p e s m args below meth c s₁ Bd hml0 hP hK
  obtain ⟨rfl, hZ, hh⟩ := hP
  have hx := Bd.exec
  have hby := Bd.bytes
  have hml : c.maxLocals = 2 := hml0
  have hown : s.vm.findClass "java/lang/StringBuilder" = some m.cls := findClass_of_methodNamed Bd.named
  have hnm := (name_of_methodNamed Bd.named Bd.method).1
  have X0 : Stand p l e ({ frames := 5, cells := 1, slots := 142, locals := 76 } : Room) s m #[(.ref sb), (.ref so)] below meth c s₁ [] 0 0 := Stand.of_body Bd
  have e0 : s₁.heap = h0 := by rw [← hh, Bd.state]; rfl
  have N0 := Fr.nil n0
  have pre0 : ∀ t, Steps p.tables e below (s₁.setTop (mkF m 0 #[.val (.ref sb), .val (.ref so)] [])) t → Steps p.tables e below (s₁.setTop (entryFrame m #[(.ref sb), (.ref so)] 2)) t := fun t k => castTop (ef_rmSBa m sb so) k
  have w_54 := hw _ (List.mem_of_getElem? (i := 54) rfl)
  have w_57 := hw _ (List.mem_of_getElem? (i := 57) rfl)
  have oz := OLD.1
  have lt_sb : sb < h0.size := P5.lt
  have lt_so : so < h0.size := P1.lt
  have lt_tb : tb < h0.size := P4.lt
  have lt_vb : vb < h0.size := P9.lt
  refine own_go (B := s₁.setTop (mkF m 0 #[.val (.ref sb), .val (.ref so)] [])) pre0 ?_
  show ∃ t o, Steps p.tables e below (s₁.setTop (mkF m 0 #[.val (.ref sb), .val (.ref so)] [])) t ∧ _
  refine own_go (fun _ => XS.aloadN X0.here hx rfl (hb hby d6_0) rfl rfl) ?_
  refine own_go (fun _ => XS.aloadN X0.here hx rfl (hb hby d6_1) rfl rfl) ?_
  show ∃ t o, Steps p.tables e below (s₁.setTop (mkF m 2 #[.val (.ref sb), .val (.ref so)] [(.ref so), (.ref sb)])) t ∧ _
  obtain ⟨_, _, ⟨T12, L12, k12, n12⟩, -, X12, ⟨Lc12, hQ12, l12, y12, z12⟩, st12⟩ := superBack X0 hx hZ (y := (⟨"java/lang/AbstractStringBuilder", "append", "(Ljava/lang/String;)Ljava/lang/AbstractStringBuilder;"⟩ : MethodName)) hown (hw _ (List.mem_of_getElem? (i := 53) rfl)) (own_same (y := (⟨"java/lang/AbstractStringBuilder", "append", "(Ljava/lang/String;)Ljava/lang/AbstractStringBuilder;"⟩ : MethodName)) (hw _ (List.mem_of_getElem? (i := 76) rfl)) rfl w_54 (by decide)) w_54 (hw _ (List.mem_of_getElem? (i := 55) rfl)) (by decide) (backOf (W := 0) (rmABa l Z a0 hw [] so tb kb nn vs sb vb kv cp us cn zc h0 n0 Z0 P1 P2 P3 P4 P5 P6 P7 P8 P9 P10 OLD P11 hzc f1 f2 hl hl2 hcp gsb gvb hne hso htb) hZ w_57 (hw _ (List.mem_of_getElem? (i := 32) rfl)) (by decide) (by decide)) e0 (Ins.self P5) (g := (mkF m 2 #[.val (.ref sb), .val (.ref so)] [(.ref so), (.ref sb)])) rfl (by rw [hml]; rfl) w_57 (argsL := [(.ref so)]) (rest := []) (lenOf pd_h496c0e57 rfl) rfl (by show 2 * 0 + _ ≤ _; exact Nat.le_of_eq rfl) (hb hby d6_2) (fun _ _ => ⟨rfl, e0, (by decide : 0 + 1 ≤ _), (by decide : 0 + 142 ≤ _)⟩)
  dsimp only [Pt.U, Pt.locs, Pt.cells, Pt.slots] at X12 l12 y12 z12 st12 hQ12
  rw [l12, y12, z12] at X12
  obtain ⟨vb2_12, kv2_12, cp2_12, rfl, Nq12, Kp12, G12_0, G12_1, G12_2, G12_3, G12_4, G12_5, H12_0, H12_1, H12_2, H12_3⟩ := hQ12
  have N12 := Fr.app N0 Nq12
  refine own_goT st12 ?_
  have le_12 : h0.size ≤ T12.heap.size := Kp12.1
  have K12 : Keep h0 T12.heap [sb, vb] := Keep.trans (Keep.refl h0 [sb, vb]) Kp12 (allS (Or.inl (List.mem_of_getElem? (i := 0) rfl)) (allS (Or.inl (List.mem_of_getElem? (i := 1) rfl)) all0))
  have lt_vb2_12 : vb2_12 < T12.heap.size := (G12_4).lt
  refine own_go (fun _ => XS.pop X12.here hx rfl (hb hby d6_5) rfl rfl) ?_
  refine own_go (fun _ => XS.aloadN X12.here hx rfl (hb hby d6_6) rfl rfl) ?_
  show ∃ t o, Steps p.tables e below (T12.setTop (mkF m 7 #[.val (.ref sb), .val (.ref so)] [(.ref sb)])) t ∧ _
  obtain ⟨fs, hr, hrun, hended, hW, hsame⟩ := X12.leave (v := some (.ref sb)) (fun h => by rw [Bd.returns] at h; cases h)
  refine ⟨_, _, ?_, hrun, hended, _, _, rfl, ?_, ⟨_, rfl⟩, hW, hsame.mono (by decide) (by decide)⟩
  · jvm_step X12.here [X12.here.top, hx, (hb hby d6_7), X12.method', Bd.returns, Value.isRef, FieldType.isReference]
    first | (intro acts; rw [hr _ acts rfl rfl rfl]) | rw [hr _ _ rfl rfl rfl]
    exact Steps.refl _
  · show Q_rmSBa Z _ _ _ _ _ _ _ _ _ _ _ _ h0 n0 _ T12.heap _
    exact ⟨vb2_12, kv2_12, cp2_12, rfl, N12, K12, G12_0, G12_1, G12_2, G12_3, G12_4, G12_5, H12_0, H12_1, H12_2, H12_3⟩
theorem ef_rmABa0 (m : MethodId) (x0 : Nat) (x1 : Nat) : entryFrame m #[(.ref x0), (.ref x1)] 3 = mkF m 0 #[.val (.ref x0), .val (.ref x1), .unset] [] := by first | (simp [entryFrame, mkF, argsToLocals, Value.category]; done) | rfl
def Q_rmABa0 (Z : State) (so : Nat) (tb : Nat) (kb : ClassId) (nn : Int32) (vs : List Value) (sb : Nat) (vb : Nat) (kv : ClassId) (cp : Int32) (us : List Value) (cn : Int32) (zc : Int32) (h0 : Heap) (n0 : Nat) (v : Option Value) (h : Heap) (L : List Loc) : Prop := v = some (.ref sb) ∧ Fr n0 L ∧ Keep h0 h [sb, vb] ∧ Exa Z h sb "java/lang/StringBuilder" ∧ Fld Z h sb "java/lang/AbstractStringBuilder" "value" "[B" (.ref vb) ∧ Fld Z h sb "java/lang/AbstractStringBuilder" "coder" "B" (.int (0 : Int32)) ∧ Fld Z h sb "java/lang/AbstractStringBuilder" "count" "I" (.int (cn + nn)) ∧ Exa Z h vb "[B" ∧ Arv Z h vb kv .byte cp (us ++ vs) (.int (0 : Int32)) ∧ (own_cap (us ++ vs) cp)
set_option maxRecDepth 65536 in
set_option maxHeartbeats 40000000 in
theorem rmABa0 (l : Launch) (Z : State) (a0 : Array Value) (hw : ∀ d ∈ tables_1, d.before a0 Z = true) (ws : List Jvm.Cond) (so : Nat) (tb : Nat) (kb : ClassId) (nn : Int32) (vs : List Value) (sb : Nat) (vb : Nat) (kv : ClassId) (cp : Int32) (us : List Value) (cn : Int32) (zc : Int32) (h0 : Heap) (n0 : Nat) (Z0 : n0 ≤ h0.size) (P1 : Exa Z h0 so "java/lang/String") (P2 : Fld Z h0 so "java/lang/String" "value" "[B" (.ref tb)) (P3 : Fld Z h0 so "java/lang/String" "coder" "B" (.int (0 : Int32))) (P4 : Arv Z h0 tb kb .byte nn vs (.int (0 : Int32))) (P5 : Exa Z h0 sb "java/lang/StringBuilder") (P6 : Fld Z h0 sb "java/lang/AbstractStringBuilder" "value" "[B" (.ref vb)) (P7 : Fld Z h0 sb "java/lang/AbstractStringBuilder" "coder" "B" (.int (0 : Int32))) (P8 : Fld Z h0 sb "java/lang/AbstractStringBuilder" "count" "I" (.int cn)) (P9 : Exa Z h0 vb "[B") (P10 : Arv Z h0 vb kv .byte cp us (.int (0 : Int32))) (OLD : Old Z n0 h0) (P11 : Sta Z Z.heap "java/lang/String" "COMPACT_STRINGS" "Z" (.int zc)) (hzc : ¬ (zc = (0 : Int32))) (f1 : own_fit vs nn) (f2 : own_fit us cn) (hq : us.length + vs.length ≤ cp.toNatClampNeg) (hcp : own_cap us cp) (gsb : n0 ≤ sb) (gvb : n0 ≤ vb) (hne : sb ≠ vb) :
    MetFree l (⟨"java/lang/AbstractStringBuilder", "append", "(Ljava/lang/String;)Ljava/lang/AbstractStringBuilder;"⟩ : MethodName) (head1 (Jvm.Cond.code (⟨"java/lang/AbstractStringBuilder", "append", "(Ljava/lang/String;)Ljava/lang/AbstractStringBuilder;"⟩ : MethodName) jdk_68_method_22_code 3 (some (.object "java/lang/AbstractStringBuilder")) :: ws) ({ frames := 3, cells := 0, slots := 0, locals := 47 } : Room)) (fun a U => a = #[(.ref sb), (.ref so)] ∧ Z.Warmed39 U.vm ∧ U.heap = h0) (fun _ _ _ _ _ => True) (fun _ U o U' => ∃ v L, o = .returned v ∧ Q_rmABa0 Z so tb kb nn vs sb vb kv cp us cn zc h0 n0 v U'.heap L ∧ FrameEnd U o U' L ({ frames := 3, cells := 0, slots := 0, locals := 47 } : Room).cells ({ frames := 3, cells := 0, slots := 0, locals := 47 } : Room).slots) := by
  refine MetFree.of_bodySF (plainFor_of_name pn_java_lang_AbstractStringBuilder) hisR ?_
  intro p e s m args below meth c s₁ Bd hml0 hP hK
  obtain ⟨rfl, hZ, hh⟩ := hP
  have hx := Bd.exec
  have hby := Bd.bytes
  have hml : c.maxLocals = 3 := hml0
  have hown : s.vm.findClass "java/lang/AbstractStringBuilder" = some m.cls := findClass_of_methodNamed Bd.named
  have hnm := (name_of_methodNamed Bd.named Bd.method).1
  have X0 : Stand p l e ({ frames := 3, cells := 0, slots := 0, locals := 47 } : Room) s m #[(.ref sb), (.ref so)] below meth c s₁ [] 0 0 := Stand.of_body Bd
  have e0 : s₁.heap = h0 := by rw [← hh, Bd.state]; rfl
  have N0 := Fr.nil n0
  have pre0 : ∀ t, Steps p.tables e below (s₁.setTop (mkF m 0 #[.val (.ref sb), .val (.ref so), .unset] [])) t → Steps p.tables e below (s₁.setTop (entryFrame m #[(.ref sb), (.ref so)] 3)) t := fun t k => castTop (ef_rmABa0 m sb so) k
  have w_105 := hw _ (List.mem_of_getElem? (i := 105) rfl)
  have w_106 := hw _ (List.mem_of_getElem? (i := 106) rfl)
  have w_108 := hw _ (List.mem_of_getElem? (i := 108) rfl)
  have w_32 := hw _ (List.mem_of_getElem? (i := 32) rfl)
  have w_61 := hw _ (List.mem_of_getElem? (i := 61) rfl)
  have w_71 := hw _ (List.mem_of_getElem? (i := 71) rfl)
  have w_72 := hw _ (List.mem_of_getElem? (i := 72) rfl)
  have w_74 := hw _ (List.mem_of_getElem? (i := 74) rfl)
  have w_75 := hw _ (List.mem_of_getElem? (i := 75) rfl)
  have w_76 := hw _ (List.mem_of_getElem? (i := 76) rfl)
  have w_77 := hw _ (List.mem_of_getElem? (i := 77) rfl)
  have oz := OLD.1
  have lt_sb : sb < h0.size := P5.lt
  have lt_so : so < h0.size := P1.lt
  have lt_tb : tb < h0.size := P4.lt
  have lt_vb : vb < h0.size := P9.lt
  refine own_go (B := s₁.setTop (mkF m 0 #[.val (.ref sb), .val (.ref so), .unset] [])) pre0 ?_
  show ∃ t o, Steps p.tables e below (s₁.setTop (mkF m 0 #[.val (.ref sb), .val (.ref so), .unset] [])) t ∧ _
  refine own_go (fun _ => XS.aloadN X0.here hx rfl (hb hby d7_0) rfl rfl) ?_
  show ∃ t o, Steps p.tables e below (s₁.setTop (mkF m 1 #[.val (.ref sb), .val (.ref so), .unset] [(.ref so)])) t ∧ _
  refine own_go (fun _ => XS.ifnonnullYes X0.here hx rfl (pc0 := 1) (pc' := 9) rfl (hb hby d7_1) rfl (by decide) (by decide)) ?_
  refine own_go (fun _ => XS.aloadN X0.here hx rfl (hb hby d7_9) rfl rfl) ?_
  show ∃ t o, Steps p.tables e below (s₁.setTop (mkF m 10 #[.val (.ref sb), .val (.ref so), .unset] [(.ref so)])) t ∧ _
  obtain ⟨cq12, kq12, q12a, q12b, q12c⟩ := isOf hZ e0 P1
  obtain ⟨_, _, ⟨T12, L12, k12, n12⟩, -, X12, ⟨Lc12, hQ12, l12, y12, z12⟩, st12⟩ := X0.virtualBack hx (y := (⟨"java/lang/String", "length", "()I"⟩ : MethodName)) (z := (⟨"java/lang/String", "length", "()I"⟩ : MethodName)) hown (mvT hZ (hw _ (List.mem_of_getElem? (i := 58) rfl))) (mvT hZ (hw _ (List.mem_of_getElem? (i := 59) rfl))) (notFace_of_selects (args := #[]) (mvT hZ w_61)) (mvT hZ w_61) (mvT hZ (hw _ (List.mem_of_getElem? (i := 60) rfl))) (by decide) (backOf (W := 0) (rmLenG l Z a0 hw [] so tb kb nn vs zc h0 n0 Z0 P1 P2 P3 P4 OLD P11 hzc) hZ (hw _ (List.mem_of_getElem? (i := 62) rfl)) (hw _ (List.mem_of_getElem? (i := 36) rfl)) (by decide) (by decide)) q12a q12c (g := (mkF m 10 #[.val (.ref sb), .val (.ref so), .unset] [(.ref so)])) rfl (by rw [hml]; rfl) (Steps.refl _) (argsL := []) (rest := []) (lenOf pd__28_29I rfl) rfl (by show 2 * 0 + _ ≤ _; exact Nat.le_of_eq rfl) (hb hby d7_10) (fun _ _ => ⟨rfl, e0, (by decide : 0 + 0 ≤ _), (by decide : 0 + 0 ≤ _)⟩)
  dsimp only [Pt.U, Pt.locs, Pt.cells, Pt.slots] at X12 l12 y12 z12 st12 hQ12
  rw [l12, y12, z12] at X12
  obtain ⟨rfl, Nq12, e12⟩ := hQ12
  have N12 := Fr.app N0 Nq12
  refine own_goT st12 ?_
  refine own_go (fun _ => XS.istoreN X12.here hx rfl (hb hby d7_13) rfl (l' := #[.val (.ref sb), .val (.ref so), .val (.int nn)]) rfl) ?_
  refine own_go (fun _ => XS.aloadN X12.here hx rfl (hb hby d7_14) rfl rfl) ?_
  refine own_go (fun _ => XS.aloadN X12.here hx rfl (hb hby d7_15) rfl rfl) ?_
  obtain ⟨T13, X13, e13, st13⟩ := getF X12 hx hZ hown (host := "") (Or.inl w_71) Via.refl e12 P8 (g := (mkF m 16 #[.val (.ref sb), .val (.ref so), .val (.int nn)] [(.ref sb), (.ref sb)])) rfl rfl (hb hby d7_16)
  refine own_go st13 ?_
  refine own_go (fun _ => XS.iloadN X13.here hx rfl (hb hby d7_19) rfl) ?_
  refine own_go (fun _ => XS.iadd X13.here hx rfl (hb hby d7_20) rfl) ?_
  show ∃ t o, Steps p.tables e below (T13.setTop (mkF m 21 #[.val (.ref sb), .val (.ref so), .val (.int nn)] [(.int (cn + nn)), (.ref sb)])) t ∧ _
  obtain ⟨cq14, q14, q14'⟩ := P5.cell
  obtain ⟨_, _, ⟨T14, L14, k14, n14⟩, -, X14, ⟨Lc14, hQ14, l14, y14, z14⟩, st14⟩ := X13.privateBack hx (y := (⟨"java/lang/AbstractStringBuilder", "ensureCapacityInternal", "(I)V"⟩ : MethodName)) hown (mvT hZ (hw _ (List.mem_of_getElem? (i := 73) rfl))) (mvT hZ w_74) (mvT hZ (own_selp (y := (⟨"java/lang/AbstractStringBuilder", "ensureCapacityInternal", "(I)V"⟩ : MethodName)) w_76 rfl w_75 w_74 (by decide))) (Cond.privateMethod_at (mvP hZ w_75 (args := #[]))) (mvT hZ w_77) (by decide) (backOf (W := 0) (rmEns0 l Z a0 hw [] sb vb kv cp us (cn + nn) h0 n0 Z0 P5 P6 P7 P9 P10 OLD (own_no f2 f1 hcp hq : ¬ ((0 : Int32) < ((cn + nn) - cp)))) hZ w_77 w_32 (by decide) (by decide)) (g := (mkF m 21 #[.val (.ref sb), .val (.ref so), .val (.int nn)] [(.int (cn + nn)), (.ref sb)])) rfl (by rw [hml]; rfl) (Steps.refl _) (a := sb) (by rw [e13]; exact q14) q14' (argsL := [(.int (cn + nn))]) (rest := []) (lenOf pd__28I_29V rfl) rfl (by show 2 * 0 + _ ≤ _; exact Nat.le_of_eq rfl) (hb hby d7_21) (fun _ _ => ⟨rfl, e13, (by decide : 0 + 0 ≤ _), (by decide : 0 + 0 ≤ _)⟩)
  dsimp only [Pt.U, Pt.locs, Pt.cells, Pt.slots] at X14 l14 y14 z14 st14 hQ14
  rw [l14, y14, z14] at X14
  obtain ⟨rfl, Nq14, e14⟩ := hQ14
  have N14 := Fr.app N12 Nq14
  refine own_goT st14 ?_
  refine own_go (fun _ => XS.aloadN X14.here hx rfl (hb hby d7_24) rfl rfl) ?_
  refine own_go (fun _ => XS.aloadN X14.here hx rfl (hb hby d7_25) rfl rfl) ?_
  obtain ⟨T15, X15, e15, st15⟩ := getF X14 hx hZ hown (host := "") (Or.inl w_71) Via.refl e14 P8 (g := (mkF m 26 #[.val (.ref sb), .val (.ref so), .val (.int nn)] [(.ref sb), (.ref sb)])) rfl rfl (hb hby d7_26)
  refine own_go st15 ?_
  refine own_go (fun _ => XS.aloadN X15.here hx rfl (hb hby d7_29) rfl rfl) ?_
  show ∃ t o, Steps p.tables e below (T15.setTop (mkF m 30 #[.val (.ref sb), .val (.ref so), .val (.int nn)] [(.ref so), (.int cn), (.ref sb)])) t ∧ _
  obtain ⟨cq16, q16, q16'⟩ := P5.cell
  obtain ⟨_, _, ⟨T16, L16, k16, n16⟩, -, X16, ⟨Lc16, hQ16, l16, y16, z16⟩, st16⟩ := X15.privateBack hx (y := (⟨"java/lang/AbstractStringBuilder", "putStringAt", "(ILjava/lang/String;)V"⟩ : MethodName)) hown (mvT hZ (hw _ (List.mem_of_getElem? (i := 104) rfl))) (mvT hZ w_105) (mvT hZ (own_selp (y := (⟨"java/lang/AbstractStringBuilder", "putStringAt", "(ILjava/lang/String;)V"⟩ : MethodName)) w_76 rfl w_106 w_105 (by decide))) (Cond.privateMethod_at (mvP hZ w_106 (args := #[]))) (mvT hZ w_108) (by decide) (backOf (W := 0) (rmPut l Z a0 hw [] so tb kb nn vs sb vb kv cp us cn zc h0 n0 Z0 P1 P2 P3 P4 P5 P6 P7 P9 P10 OLD P11 hzc f1 f2 hq gvb) hZ w_108 w_32 (by decide) (by decide)) (g := (mkF m 30 #[.val (.ref sb), .val (.ref so), .val (.int nn)] [(.ref so), (.int cn), (.ref sb)])) rfl (by rw [hml]; rfl) (Steps.refl _) (a := sb) (by rw [e15]; exact q16) q16' (argsL := [(.int cn), (.ref so)]) (rest := []) (lenOf pd__28ILjava_2flang_2fString_3b_29V rfl) rfl (by show 2 * 0 + _ ≤ _; exact Nat.le_of_eq rfl) (hb hby d7_30) (fun _ _ => ⟨rfl, e15, (by decide : 0 + 0 ≤ _), (by decide : 0 + 0 ≤ _)⟩)
  dsimp only [Pt.U, Pt.locs, Pt.cells, Pt.slots] at X16 l16 y16 z16 st16 hQ16
  rw [l16, y16, z16] at X16
  obtain ⟨rfl, Nq16, Kp16, G16_0⟩ := hQ16
  have N16 := Fr.app N14 Nq16
  refine own_goT st16 ?_
  have le_16 : h0.size ≤ T16.heap.size := Kp16.1
  have K16 : Keep h0 T16.heap [sb, vb] := Keep.trans (Keep.refl h0 [sb, vb]) Kp16 (allS (Or.inl (List.mem_of_getElem? (i := 1) rfl)) all0)
  refine own_go (fun _ => XS.aloadN X16.here hx rfl (hb hby d7_33) rfl rfl) ?_
  refine own_go (fun _ => XS.dup X16.here hx rfl (hb hby d7_34) rfl rfl) ?_
  have F17 := (Fld.keep P8 Kp16 (ninS hne nin0))
  obtain ⟨T18, X18, e18, st18⟩ := getF X16 hx hZ hown (host := "") (Or.inl w_71) Via.refl rfl F17 (g := (mkF m 35 #[.val (.ref sb), .val (.ref so), .val (.int nn)] [(.ref sb), (.ref sb)])) rfl rfl (hb hby d7_35)
  refine own_go st18 ?_
  refine own_go (fun _ => XS.iloadN X18.here hx rfl (hb hby d7_38) rfl) ?_
  refine own_go (fun _ => XS.iadd X18.here hx rfl (hb hby d7_39) rfl) ?_
  have F19 := (Exa.keep P5 Kp16)
  obtain ⟨T20, h20, X20, e20, W20, st20⟩ := putF X18 hx hZ hown (host := "") (Or.inl w_71) Via.refl e18 F17 F19 (Or.inl w_72) (hw _ (List.mem_of_getElem? (i := 23) rfl)) (ty := .int) (by decide) rfl rfl (g := (mkF m 40 #[.val (.ref sb), .val (.ref so), .val (.int nn)] [(.int (cn + nn)), (.ref sb)])) rfl rfl (hb hby d7_40)
  refine own_go st20 ?_
  have le_20 : T16.heap.size ≤ h20.size := Nat.le_of_eq W20.size.symm
  have K20 : Keep h0 h20 [sb, vb] := Keep.wr K16 W20 (Or.inl (List.mem_of_getElem? (i := 0) rfl))
  have N20 := Fr.snoc X20 N16 gsb
  have Fw20 := Fld.same W20 F17
  refine own_go (fun _ => XS.aloadN X20.here hx rfl (hb hby d7_43) rfl rfl) ?_
  show ∃ t o, Steps p.tables e below (T20.setTop (mkF m 44 #[.val (.ref sb), .val (.ref so), .val (.int nn)] [(.ref sb)])) t ∧ _
  have F21 := (Exa.wr W20 F19)
  have F22 := (Fld.other W20 (Fld.keep P6 Kp16 (ninS hne nin0)) (Or.inr (slot_ne (a0 := a0) (Or.inl (hw _ (List.mem_of_getElem? (i := 39) rfl))) (Or.inl w_72) (by decide) (t := (.array .byte)) (t' := .int) (by decide) (by decide))))
  have F23 := (Fld.other W20 (Fld.keep P7 Kp16 (ninS hne nin0)) (Or.inr (slot_ne (a0 := a0) (Or.inl (hw _ (List.mem_of_getElem? (i := 41) rfl))) (Or.inl w_72) (by decide) (t := .byte) (t' := .int) (by decide) (by decide))))
  have F24 := (Exa.wr W20 (Exa.keep P9 Kp16))
  have ne25 : vb ≠ sb := own_ne (by omega)
  have F26 := (Arv.other G16_0 W20 ne25)
  obtain ⟨fs, hr, hrun, hended, hW, hsame⟩ := X20.leave (v := some (.ref sb)) (fun h => by rw [Bd.returns] at h; cases h)
  refine ⟨_, _, ?_, hrun, hended, _, _, rfl, ?_, ⟨_, rfl⟩, hW, hsame.mono (by decide) (by decide)⟩
  · jvm_step X20.here [X20.here.top, hx, (hb hby d7_44), X20.method', Bd.returns, Value.isRef, FieldType.isReference]
    first | (intro acts; rw [hr _ acts rfl rfl rfl]) | rw [hr _ _ rfl rfl rfl]
    exact Steps.refl _
  · show Q_rmABa0 Z _ _ _ _ _ _ _ _ _ _ _ _ h0 n0 _ T20.heap _
    rw [e20]
    exact ⟨rfl, N20, K20, F21, F22, F23, Fw20, F24, F26, (own_cap.app hcp hq)⟩
theorem ef_rmSBa0 (m : MethodId) (x0 : Nat) (x1 : Nat) : entryFrame m #[(.ref x0), (.ref x1)] 2 = mkF m 0 #[.val (.ref x0), .val (.ref x1)] [] := by first | (simp [entryFrame, mkF, argsToLocals, Value.category]; done) | rfl
def Q_rmSBa0 (Z : State) (so : Nat) (tb : Nat) (kb : ClassId) (nn : Int32) (vs : List Value) (sb : Nat) (vb : Nat) (kv : ClassId) (cp : Int32) (us : List Value) (cn : Int32) (zc : Int32) (h0 : Heap) (n0 : Nat) (v : Option Value) (h : Heap) (L : List Loc) : Prop := v = some (.ref sb) ∧ Fr n0 L ∧ Keep h0 h [sb, vb] ∧ Exa Z h sb "java/lang/StringBuilder" ∧ Fld Z h sb "java/lang/AbstractStringBuilder" "value" "[B" (.ref vb) ∧ Fld Z h sb "java/lang/AbstractStringBuilder" "coder" "B" (.int (0 : Int32)) ∧ Fld Z h sb "java/lang/AbstractStringBuilder" "count" "I" (.int (cn + nn)) ∧ Exa Z h vb "[B" ∧ Arv Z h vb kv .byte cp (us ++ vs) (.int (0 : Int32)) ∧ (own_cap (us ++ vs) cp)
set_option maxRecDepth 65536 in
set_option maxHeartbeats 40000000 in
theorem rmSBa0 (l : Launch) (Z : State) (a0 : Array Value) (hw : ∀ d ∈ tables_1, d.before a0 Z = true) (ws : List Jvm.Cond) (so : Nat) (tb : Nat) (kb : ClassId) (nn : Int32) (vs : List Value) (sb : Nat) (vb : Nat) (kv : ClassId) (cp : Int32) (us : List Value) (cn : Int32) (zc : Int32) (h0 : Heap) (n0 : Nat) (Z0 : n0 ≤ h0.size) (P1 : Exa Z h0 so "java/lang/String") (P2 : Fld Z h0 so "java/lang/String" "value" "[B" (.ref tb)) (P3 : Fld Z h0 so "java/lang/String" "coder" "B" (.int (0 : Int32))) (P4 : Arv Z h0 tb kb .byte nn vs (.int (0 : Int32))) (P5 : Exa Z h0 sb "java/lang/StringBuilder") (P6 : Fld Z h0 sb "java/lang/AbstractStringBuilder" "value" "[B" (.ref vb)) (P7 : Fld Z h0 sb "java/lang/AbstractStringBuilder" "coder" "B" (.int (0 : Int32))) (P8 : Fld Z h0 sb "java/lang/AbstractStringBuilder" "count" "I" (.int cn)) (P9 : Exa Z h0 vb "[B") (P10 : Arv Z h0 vb kv .byte cp us (.int (0 : Int32))) (OLD : Old Z n0 h0) (P11 : Sta Z Z.heap "java/lang/String" "COMPACT_STRINGS" "Z" (.int zc)) (hzc : ¬ (zc = (0 : Int32))) (f1 : own_fit vs nn) (f2 : own_fit us cn) (hq : us.length + vs.length ≤ cp.toNatClampNeg) (hcp : own_cap us cp) (gsb : n0 ≤ sb) (gvb : n0 ≤ vb) (hne : sb ≠ vb) :
    MetFree l (⟨"java/lang/StringBuilder", "append", "(Ljava/lang/String;)Ljava/lang/StringBuilder;"⟩ : MethodName) (head1 (Jvm.Cond.code (⟨"java/lang/StringBuilder", "append", "(Ljava/lang/String;)Ljava/lang/StringBuilder;"⟩ : MethodName) jdk_67_method_7_code 2 (some (.object "java/lang/StringBuilder")) :: ws) ({ frames := 4, cells := 0, slots := 0, locals := 61 } : Room)) (fun a U => a = #[(.ref sb), (.ref so)] ∧ Z.Warmed39 U.vm ∧ U.heap = h0) (fun _ _ _ _ _ => True) (fun _ U o U' => ∃ v L, o = .returned v ∧ Q_rmSBa0 Z so tb kb nn vs sb vb kv cp us cn zc h0 n0 v U'.heap L ∧ FrameEnd U o U' L ({ frames := 4, cells := 0, slots := 0, locals := 61 } : Room).cells ({ frames := 4, cells := 0, slots := 0, locals := 61 } : Room).slots) := by
  refine MetFree.of_bodySF (plainFor_of_name pn_java_lang_StringBuilder) hisR ?_
  intro p e s m args below meth c s₁ Bd hml0 hP hK
  obtain ⟨rfl, hZ, hh⟩ := hP
  have hx := Bd.exec
  have hby := Bd.bytes
  have hml : c.maxLocals = 2 := hml0
  have hown : s.vm.findClass "java/lang/StringBuilder" = some m.cls := findClass_of_methodNamed Bd.named
  have hnm := (name_of_methodNamed Bd.named Bd.method).1
  have X0 : Stand p l e ({ frames := 4, cells := 0, slots := 0, locals := 61 } : Room) s m #[(.ref sb), (.ref so)] below meth c s₁ [] 0 0 := Stand.of_body Bd
  have e0 : s₁.heap = h0 := by rw [← hh, Bd.state]; rfl
  have N0 := Fr.nil n0
  have pre0 : ∀ t, Steps p.tables e below (s₁.setTop (mkF m 0 #[.val (.ref sb), .val (.ref so)] [])) t → Steps p.tables e below (s₁.setTop (entryFrame m #[(.ref sb), (.ref so)] 2)) t := fun t k => castTop (ef_rmSBa0 m sb so) k
  have w_54 := hw _ (List.mem_of_getElem? (i := 54) rfl)
  have w_57 := hw _ (List.mem_of_getElem? (i := 57) rfl)
  have oz := OLD.1
  have lt_sb : sb < h0.size := P5.lt
  have lt_so : so < h0.size := P1.lt
  have lt_tb : tb < h0.size := P4.lt
  have lt_vb : vb < h0.size := P9.lt
  refine own_go (B := s₁.setTop (mkF m 0 #[.val (.ref sb), .val (.ref so)] [])) pre0 ?_
  show ∃ t o, Steps p.tables e below (s₁.setTop (mkF m 0 #[.val (.ref sb), .val (.ref so)] [])) t ∧ _
  refine own_go (fun _ => XS.aloadN X0.here hx rfl (hb hby d6_0) rfl rfl) ?_
  refine own_go (fun _ => XS.aloadN X0.here hx rfl (hb hby d6_1) rfl rfl) ?_
  show ∃ t o, Steps p.tables e below (s₁.setTop (mkF m 2 #[.val (.ref sb), .val (.ref so)] [(.ref so), (.ref sb)])) t ∧ _
  obtain ⟨_, _, ⟨T12, L12, k12, n12⟩, -, X12, ⟨Lc12, hQ12, l12, y12, z12⟩, st12⟩ := superBack X0 hx hZ (y := (⟨"java/lang/AbstractStringBuilder", "append", "(Ljava/lang/String;)Ljava/lang/AbstractStringBuilder;"⟩ : MethodName)) hown (hw _ (List.mem_of_getElem? (i := 53) rfl)) (own_same (y := (⟨"java/lang/AbstractStringBuilder", "append", "(Ljava/lang/String;)Ljava/lang/AbstractStringBuilder;"⟩ : MethodName)) (hw _ (List.mem_of_getElem? (i := 76) rfl)) rfl w_54 (by decide)) w_54 (hw _ (List.mem_of_getElem? (i := 55) rfl)) (by decide) (backOf (W := 0) (rmABa0 l Z a0 hw [] so tb kb nn vs sb vb kv cp us cn zc h0 n0 Z0 P1 P2 P3 P4 P5 P6 P7 P8 P9 P10 OLD P11 hzc f1 f2 hq hcp gsb gvb hne) hZ w_57 (hw _ (List.mem_of_getElem? (i := 32) rfl)) (by decide) (by decide)) e0 (Ins.self P5) (g := (mkF m 2 #[.val (.ref sb), .val (.ref so)] [(.ref so), (.ref sb)])) rfl (by rw [hml]; rfl) w_57 (argsL := [(.ref so)]) (rest := []) (lenOf pd_h496c0e57 rfl) rfl (by show 2 * 0 + _ ≤ _; exact Nat.le_of_eq rfl) (hb hby d6_2) (fun _ _ => ⟨rfl, e0, (by decide : 0 + 0 ≤ _), (by decide : 0 + 0 ≤ _)⟩)
  dsimp only [Pt.U, Pt.locs, Pt.cells, Pt.slots] at X12 l12 y12 z12 st12 hQ12
  rw [l12, y12, z12] at X12
  obtain ⟨rfl, Nq12, Kp12, G12_0, G12_1, G12_2, G12_3, G12_4, G12_5, H12_0⟩ := hQ12
  have N12 := Fr.app N0 Nq12
  refine own_goT st12 ?_
  have le_12 : h0.size ≤ T12.heap.size := Kp12.1
  have K12 : Keep h0 T12.heap [sb, vb] := Keep.trans (Keep.refl h0 [sb, vb]) Kp12 (allS (Or.inl (List.mem_of_getElem? (i := 0) rfl)) (allS (Or.inl (List.mem_of_getElem? (i := 1) rfl)) all0))
  refine own_go (fun _ => XS.pop X12.here hx rfl (hb hby d6_5) rfl rfl) ?_
  refine own_go (fun _ => XS.aloadN X12.here hx rfl (hb hby d6_6) rfl rfl) ?_
  show ∃ t o, Steps p.tables e below (T12.setTop (mkF m 7 #[.val (.ref sb), .val (.ref so)] [(.ref sb)])) t ∧ _
  obtain ⟨fs, hr, hrun, hended, hW, hsame⟩ := X12.leave (v := some (.ref sb)) (fun h => by rw [Bd.returns] at h; cases h)
  refine ⟨_, _, ?_, hrun, hended, _, _, rfl, ?_, ⟨_, rfl⟩, hW, hsame.mono (by decide) (by decide)⟩
  · jvm_step X12.here [X12.here.top, hx, (hb hby d6_7), X12.method', Bd.returns, Value.isRef, FieldType.isReference]
    first | (intro acts; rw [hr _ acts rfl rfl rfl]) | rw [hr _ _ rfl rfl rfl]
    exact Steps.refl _
  · show Q_rmSBa0 Z _ _ _ _ _ _ _ _ _ _ _ _ h0 n0 _ T12.heap _
    exact ⟨rfl, N12, K12, G12_0, G12_1, G12_2, G12_3, G12_4, G12_5, H12_0⟩
theorem ef_rmCkl (m : MethodId) (x0 : Int32) (x1 : Int32) : entryFrame m #[(.int x0), (.int x1)] 2 = mkF m 0 #[.val (.int x0), .val (.int x1)] [] := by first | (simp [entryFrame, mkF, argsToLocals, Value.category]; done) | rfl
theorem d32_0 : decode jdk_65_method_131_code 0 = .ok (.iload_n 1, 1) := by decide +kernel
theorem d32_1 : decode jdk_65_method_131_code 1 = .ok (.iload_n 0, 1) := by decide +kernel
theorem d32_2 : decode jdk_65_method_131_code 2 = .ok (.if_icmp .ge 35, 3) := by decide +kernel
theorem d32_37 : decode jdk_65_method_131_code 37 = .ok (.return_, 1) := by decide +kernel
def Q_rmCkl (Z : State) (cn : Int32) (h0 : Heap) (n0 : Nat) (v : Option Value) (h : Heap) (L : List Loc) : Prop := v = none ∧ Fr n0 L ∧ h = h0
set_option maxRecDepth 65536 in
set_option maxHeartbeats 40000000 in
theorem rmCkl (l : Launch) (Z : State) (a0 : Array Value) (hw : ∀ d ∈ tables_1, d.before a0 Z = true) (ws : List Jvm.Cond) (cn : Int32) (h0 : Heap) (n0 : Nat) (Z0 : n0 ≤ h0.size) (OLD : Old Z n0 h0) (q0 : ¬ (cn < (0 : Int32))) :
    MetFree l (⟨"java/util/Arrays", "checkLength", "(II)V"⟩ : MethodName) (head1 (Jvm.Cond.code (⟨"java/util/Arrays", "checkLength", "(II)V"⟩ : MethodName) jdk_65_method_131_code 2 none :: ws) ({ frames := 0, cells := 0, slots := 0, locals := 0 } : Room)) (fun a U => a = #[(.int (0 : Int32)), (.int cn)] ∧ Z.Warmed39 U.vm ∧ U.heap = h0) (fun _ _ _ _ _ => True) (fun _ U o U' => ∃ v L, o = .returned v ∧ Q_rmCkl Z cn h0 n0 v U'.heap L ∧ FrameEnd U o U' L ({ frames := 0, cells := 0, slots := 0, locals := 0 } : Room).cells ({ frames := 0, cells := 0, slots := 0, locals := 0 } : Room).slots) := by
  refine MetFree.of_bodySF (plainFor_of_name pn_java_util_Arrays) hisR ?_
  intro p e s m args below meth c s₁ Bd hml0 hP hK
  obtain ⟨rfl, hZ, hh⟩ := hP
  have hx := Bd.exec
  have hby := Bd.bytes
  have hml : c.maxLocals = 2 := hml0
  have hown : s.vm.findClass "java/util/Arrays" = some m.cls := findClass_of_methodNamed Bd.named
  have hnm := (name_of_methodNamed Bd.named Bd.method).1
  have X0 : Stand p l e ({ frames := 0, cells := 0, slots := 0, locals := 0 } : Room) s m #[(.int (0 : Int32)), (.int cn)] below meth c s₁ [] 0 0 := Stand.of_body Bd
  have e0 : s₁.heap = h0 := by rw [← hh, Bd.state]; rfl
  have N0 := Fr.nil n0
  have pre0 : ∀ t, Steps p.tables e below (s₁.setTop (mkF m 0 #[.val (.int (0 : Int32)), .val (.int cn)] [])) t → Steps p.tables e below (s₁.setTop (entryFrame m #[(.int (0 : Int32)), (.int cn)] 2)) t := fun t k => castTop (ef_rmCkl m (0 : Int32) cn) k
  have oz := OLD.1
  refine own_go (B := s₁.setTop (mkF m 0 #[.val (.int (0 : Int32)), .val (.int cn)] [])) pre0 ?_
  show ∃ t o, Steps p.tables e below (s₁.setTop (mkF m 0 #[.val (.int (0 : Int32)), .val (.int cn)] [])) t ∧ _
  refine own_go (fun _ => XS.iloadN X0.here hx rfl (hb hby d32_0) rfl) ?_
  refine own_go (fun _ => XS.iloadN X0.here hx rfl (hb hby d32_1) rfl) ?_
  show ∃ t o, Steps p.tables e below (s₁.setTop (mkF m 2 #[.val (.int (0 : Int32)), .val (.int cn)] [(.int (0 : Int32)), (.int cn)])) t ∧ _
  refine own_go (fun _ => XS.icmpYes X0.here hx rfl (pc0 := 2) (pc' := 37) rfl (hb hby d32_2) rfl (flt q0).2.1 (by decide) (by decide)) ?_
  show ∃ t o, Steps p.tables e below (s₁.setTop (mkF m 37 #[.val (.int (0 : Int32)), .val (.int cn)] [])) t ∧ _
  obtain ⟨fs, hr, hrun, hended, hW, hsame⟩ := X0.leave (v := none) (fun _ => rfl)
  refine ⟨_, _, ?_, hrun, hended, _, _, rfl, ?_, ⟨_, rfl⟩, hW, hsame.mono (by decide) (by decide)⟩
  · exact X0.returnOut hx Bd.returns (hb hby d32_37) hr
  · show Q_rmCkl Z _ h0 n0 _ s₁.heap _
    rw [e0]
    exact ⟨rfl, N0, rfl⟩
theorem ef_rmCrb (m : MethodId) (x0 : Nat) (x1 : Int32) (x2 : Int32) : entryFrame m #[(.ref x0), (.int x1), (.int x2)] 5 = mkF m 0 #[.val (.ref x0), .val (.int x1), .val (.int x2), .unset, .unset] [] := by first | (simp [entryFrame, mkF, argsToLocals, Value.category]; done) | rfl
theorem d31_0 : decode jdk_65_method_133_code 0 = .ok (.iload_n 1, 1) := by decide +kernel
theorem d31_1 : decode jdk_65_method_133_code 1 = .ok (.iload_n 2, 1) := by decide +kernel
theorem d31_2 : decode jdk_65_method_133_code 2 = .ok (.invokestatic 343, 3) := by decide +kernel
theorem pd__28II_29V : parseMethodDescriptor "(II)V" = some ⟨[.int, .int], none⟩ := by decide +kernel
theorem d31_5 : decode jdk_65_method_133_code 5 = .ok (.iload_n 2, 1) := by decide +kernel
theorem d31_6 : decode jdk_65_method_133_code 6 = .ok (.iload_n 1, 1) := by decide +kernel
theorem d31_7 : decode jdk_65_method_133_code 7 = .ok (.isub, 1) := by decide +kernel
theorem d31_8 : decode jdk_65_method_133_code 8 = .ok (.istore_n 3, 1) := by decide +kernel
theorem d31_9 : decode jdk_65_method_133_code 9 = .ok (.iload_n 3, 1) := by decide +kernel
theorem d31_10 : decode jdk_65_method_133_code 10 = .ok (.newarray .byte, 2) := by decide +kernel
theorem d31_12 : decode jdk_65_method_133_code 12 = .ok (.astore 4, 2) := by decide +kernel
theorem d31_14 : decode jdk_65_method_133_code 14 = .ok (.aload_n 0, 1) := by decide +kernel
theorem d31_15 : decode jdk_65_method_133_code 15 = .ok (.iload_n 1, 1) := by decide +kernel
theorem d31_16 : decode jdk_65_method_133_code 16 = .ok (.aload 4, 2) := by decide +kernel
theorem d31_18 : decode jdk_65_method_133_code 18 = .ok (.iconst 0, 1) := by decide +kernel
theorem d31_19 : decode jdk_65_method_133_code 19 = .ok (.aload_n 0, 1) := by decide +kernel
theorem d31_20 : decode jdk_65_method_133_code 20 = .ok (.arraylength, 1) := by decide +kernel
theorem d31_21 : decode jdk_65_method_133_code 21 = .ok (.iload_n 1, 1) := by decide +kernel
theorem d31_22 : decode jdk_65_method_133_code 22 = .ok (.isub, 1) := by decide +kernel
theorem d31_23 : decode jdk_65_method_133_code 23 = .ok (.iload_n 3, 1) := by decide +kernel
theorem d31_24 : decode jdk_65_method_133_code 24 = .ok (.invokestatic 304, 3) := by decide +kernel
theorem d31_27 : decode jdk_65_method_133_code 27 = .ok (.invokestatic 150, 3) := by decide +kernel
theorem d31_30 : decode jdk_65_method_133_code 30 = .ok (.aload 4, 2) := by decide +kernel
theorem d31_32 : decode jdk_65_method_133_code 32 = .ok (.areturn, 1) := by decide +kernel
def Q_rmCrb (Z : State) (vb : Nat) (kv : ClassId) (cp : Int32) (us : List Value) (cn : Int32) (h0 : Heap) (n0 : Nat) (v : Option Value) (h : Heap) (L : List Loc) : Prop := ∃ (nb : Nat), ∃ (kn : ClassId), v = some (.ref nb) ∧ Fr n0 L ∧ Keep h0 h [] ∧ Arv Z h nb kn .byte cn us (.int (0 : Int32)) ∧ (h0.size ≤ nb)
set_option maxRecDepth 65536 in
set_option maxHeartbeats 40000000 in
theorem rmCrb (l : Launch) (Z : State) (a0 : Array Value) (hw : ∀ d ∈ tables_1, d.before a0 Z = true) (ws : List Jvm.Cond) (vb : Nat) (kv : ClassId) (cp : Int32) (us : List Value) (cn : Int32) (h0 : Heap) (n0 : Nat) (Z0 : n0 ≤ h0.size) (P1 : Arv Z h0 vb kv .byte cp us (.int (0 : Int32))) (OLD : Old Z n0 h0) (f2 : own_fit us cn) (hcp : own_cap us cp) (hlt : cn < cp) :
    MetFree l (⟨"java/util/Arrays", "copyOfRangeByte", "([BII)[B"⟩ : MethodName) (head1 (Jvm.Cond.code (⟨"java/util/Arrays", "copyOfRangeByte", "([BII)[B"⟩ : MethodName) jdk_65_method_133_code 5 (some (.array .byte)) :: ws) ({ frames := 1, cells := 1, slots := 142, locals := 18 } : Room)) (fun a U => a = #[(.ref vb), (.int (0 : Int32)), (.int cn)] ∧ Z.Warmed39 U.vm ∧ U.heap = h0) (fun _ _ _ _ _ => True) (fun _ U o U' => ∃ v L, o = .returned v ∧ Q_rmCrb Z vb kv cp us cn h0 n0 v U'.heap L ∧ FrameEnd U o U' L ({ frames := 1, cells := 1, slots := 142, locals := 18 } : Room).cells ({ frames := 1, cells := 1, slots := 142, locals := 18 } : Room).slots) := by
  refine MetFree.of_bodySF (plainFor_of_name pn_java_util_Arrays) hisR ?_
  intro p e s m args below meth c s₁ Bd hml0 hP hK
  obtain ⟨rfl, hZ, hh⟩ := hP
  have hx := Bd.exec
  have hby := Bd.bytes
  have hml : c.maxLocals = 5 := hml0
  have hown : s.vm.findClass "java/util/Arrays" = some m.cls := findClass_of_methodNamed Bd.named
  have hnm := (name_of_methodNamed Bd.named Bd.method).1
  have X0 : Stand p l e ({ frames := 1, cells := 1, slots := 142, locals := 18 } : Room) s m #[(.ref vb), (.int (0 : Int32)), (.int cn)] below meth c s₁ [] 0 0 := Stand.of_body Bd
  have e0 : s₁.heap = h0 := by rw [← hh, Bd.state]; rfl
  have N0 := Fr.nil n0
  have pre0 : ∀ t, Steps p.tables e below (s₁.setTop (mkF m 0 #[.val (.ref vb), .val (.int (0 : Int32)), .val (.int cn), .unset, .unset] [])) t → Steps p.tables e below (s₁.setTop (entryFrame m #[(.ref vb), (.int (0 : Int32)), (.int cn)] 5)) t := fun t k => castTop (ef_rmCrb m vb (0 : Int32) cn) k
  have w_189 := hw _ (List.mem_of_getElem? (i := 189) rfl)
  have w_89 := hw _ (List.mem_of_getElem? (i := 89) rfl)
  have w_95 := hw _ (List.mem_of_getElem? (i := 95) rfl)
  have w_99 := hw _ (List.mem_of_getElem? (i := 99) rfl)
  have oz := OLD.1
  have lt_vb : vb < h0.size := P1.lt
  refine own_go (B := s₁.setTop (mkF m 0 #[.val (.ref vb), .val (.int (0 : Int32)), .val (.int cn), .unset, .unset] [])) pre0 ?_
  show ∃ t o, Steps p.tables e below (s₁.setTop (mkF m 0 #[.val (.ref vb), .val (.int (0 : Int32)), .val (.int cn), .unset, .unset] [])) t ∧ _
  refine own_go (fun _ => XS.iloadN X0.here hx rfl (hb hby d31_0) rfl) ?_
  refine own_go (fun _ => XS.iloadN X0.here hx rfl (hb hby d31_1) rfl) ?_
  show ∃ t o, Steps p.tables e below (s₁.setTop (mkF m 2 #[.val (.ref vb), .val (.int (0 : Int32)), .val (.int cn), .unset, .unset] [(.int cn), (.int (0 : Int32))])) t ∧ _
  obtain ⟨_, _, ⟨T2, L2, k2, n2⟩, -, X2, ⟨Lc2, hQ2, l2, y2, z2⟩, st2⟩ := Jvm.LawKit.callS X0 hx (y := (⟨"java/util/Arrays", "checkLength", "(II)V"⟩ : MethodName)) hown (mvT hZ (hw _ (List.mem_of_getElem? (i := 187) rfl))) (mvT hZ (hw _ (List.mem_of_getElem? (i := 188) rfl))) (mvT hZ w_95) (mvT hZ w_189) (by decide) (backOf (W := 0) (rmCkl l Z a0 hw [] cn h0 n0 Z0 OLD (own_fit.nn f2 : ¬ (cn < (0 : Int32)))) hZ w_189 w_95 (by decide) (by decide)) (g := (mkF m 2 #[.val (.ref vb), .val (.int (0 : Int32)), .val (.int cn), .unset, .unset] [(.int cn), (.int (0 : Int32))])) rfl (by rw [hml]; rfl) (argsL := [(.int (0 : Int32)), (.int cn)]) (rest := []) (lenOf pd__28II_29V rfl) rfl (by show 2 * 0 + _ ≤ _; exact Nat.le_of_eq rfl) (hb hby d31_2) (fun _ _ => ⟨rfl, e0, (by decide : 0 + 0 ≤ _), (by decide : 0 + 0 ≤ _)⟩)
  dsimp only [Pt.U, Pt.locs, Pt.cells, Pt.slots] at X2 l2 y2 z2 st2 hQ2
  rw [l2, y2, z2] at X2
  obtain ⟨rfl, Nq2, e2⟩ := hQ2
  have N2 := Fr.app N0 Nq2
  refine own_go st2 ?_
  refine own_go (fun _ => XS.iloadN X2.here hx rfl (hb hby d31_5) rfl) ?_
  refine own_go (fun _ => XS.iloadN X2.here hx rfl (hb hby d31_6) rfl) ?_
  refine own_go (fun _ => XS.isub X2.here hx rfl (hb hby d31_7) rfl) ?_
  show ∃ t o, Steps p.tables e below (T2.setTop (mkF m 8 #[.val (.ref vb), .val (.int (0 : Int32)), .val (.int cn), .unset, .unset] [(.int (cn - (0 : Int32)))])) t ∧ _
  rw [own_sub0]
  show ∃ t o, Steps p.tables e below (T2.setTop (mkF m 8 #[.val (.ref vb), .val (.int (0 : Int32)), .val (.int cn), .unset, .unset] [(.int cn)])) t ∧ _
  refine own_go (fun _ => XS.istoreN X2.here hx rfl (hb hby d31_8) rfl (l' := #[.val (.ref vb), .val (.int (0 : Int32)), .val (.int cn), .val (.int cn), .unset]) rfl) ?_
  refine own_go (fun _ => XS.iloadN X2.here hx rfl (hb hby d31_9) rfl) ?_
  show ∃ t o, Steps p.tables e below (T2.setTop (mkF m 10 #[.val (.ref vb), .val (.int (0 : Int32)), .val (.int cn), .val (.int cn), .unset] [(.int cn)])) t ∧ _
  obtain ⟨T3, h3, k3, X3, e3, E3, A3, st3⟩ := newP (aty := .byte) X2 hx hZ (hw _ (List.mem_of_getElem? (i := 37) rfl)) e2 (g := (mkF m 10 #[.val (.ref vb), .val (.int (0 : Int32)), .val (.int cn), .val (.int cn), .unset] [(.int cn)])) rfl (hb hby d31_10) rfl (own_fit.nn f2) (cap := 142) (own_c250 f2 hcp) (by decide) (by decide) (by decide)
  obtain ⟨b3, g3⟩ : ∃ z, z = h0.size := ⟨_, rfl⟩
  rw [← g3] at A3 st3
  refine own_go st3 ?_
  have le_3 : h0.size ≤ h3.size := E3.1
  have lt_b3 : b3 < h3.size := A3.lt
  have V_b3 : Arv Z h3 b3 k3 .byte cn [] (.int (0 : Int32)) := Arv.new A3 (own_fit.nn f2)
  have K3 : Keep h0 h3 [] := Keep.ext (Keep.refl h0 []) E3
  refine own_go (fun _ => XS.astore X3.here hx rfl (hb hby d31_12) rfl rfl (l' := #[.val (.ref vb), .val (.int (0 : Int32)), .val (.int cn), .val (.int cn), .val (.ref b3)]) rfl) ?_
  refine own_go (fun _ => XS.aloadN X3.here hx rfl (hb hby d31_14) rfl rfl) ?_
  refine own_go (fun _ => XS.iloadN X3.here hx rfl (hb hby d31_15) rfl) ?_
  refine own_go (fun _ => XS.aload X3.here hx rfl (hb hby d31_16) rfl rfl) ?_
  refine own_go (fun _ => XS.iconst X3.here hx rfl (hb hby d31_18)) ?_
  refine own_go (fun _ => XS.aloadN X3.here hx rfl (hb hby d31_19) rfl rfl) ?_
  have F4 := (P1.ext E3)
  obtain ⟨cl5, Ar5, q5, S5, N5, H5, G5⟩ := id F4
  have ln5 : cl5.slots.size.toInt32 = cp := len_of S5 N5
  have al5 := X3.arraylength hx (by rw [e3]; exact Ar5.1) (State.isArrayOf_alike hZ.alike Ar5.2.1) (g := (mkF m 20 #[.val (.ref vb), .val (.int (0 : Int32)), .val (.int cn), .val (.int cn), .val (.ref b3)] [(.ref vb), (.int (0 : Int32)), (.ref b3), (.int (0 : Int32)), (.ref vb)])) rfl rfl (hb hby d31_20)
  rw [ln5] at al5
  refine own_go al5 ?_
  refine own_go (fun _ => XS.iloadN X3.here hx rfl (hb hby d31_21) rfl) ?_
  refine own_go (fun _ => XS.isub X3.here hx rfl (hb hby d31_22) rfl) ?_
  show ∃ t o, Steps p.tables e below (T3.setTop (mkF m 23 #[.val (.ref vb), .val (.int (0 : Int32)), .val (.int cn), .val (.int cn), .val (.ref b3)] [(.int (cp - (0 : Int32))), (.int (0 : Int32)), (.ref b3), (.int (0 : Int32)), (.ref vb)])) t ∧ _
  rw [own_sub0]
  show ∃ t o, Steps p.tables e below (T3.setTop (mkF m 23 #[.val (.ref vb), .val (.int (0 : Int32)), .val (.int cn), .val (.int cn), .val (.ref b3)] [(.int cp), (.int (0 : Int32)), (.ref b3), (.int (0 : Int32)), (.ref vb)])) t ∧ _
  refine own_go (fun _ => XS.iloadN X3.here hx rfl (hb hby d31_23) rfl) ?_
  show ∃ t o, Steps p.tables e below (T3.setTop (mkF m 24 #[.val (.ref vb), .val (.int (0 : Int32)), .val (.int cn), .val (.int cn), .val (.ref b3)] [(.int cn), (.int cp), (.int (0 : Int32)), (.ref b3), (.int (0 : Int32)), (.ref vb)])) t ∧ _
  have F6 := (OLD.ext E3)
  have zl7 : n0 ≤ h3.size := by omega
  obtain ⟨_, _, ⟨T8, L8, k8, n8⟩, -, X8, ⟨Lc8, hQ8, l8, y8, z8⟩, st8⟩ := Jvm.LawKit.callS X3 hx (y := (⟨"java/lang/Math", "min", "(II)I"⟩ : MethodName)) hown (mvT hZ (hw _ (List.mem_of_getElem? (i := 97) rfl))) (mvT hZ (hw _ (List.mem_of_getElem? (i := 98) rfl))) (mvT hZ w_89) (mvT hZ w_99) (by decide) (backOf (W := 4) (rmMinB l Z a0 hw [] cp cn h3 n0 zl7 F6 hlt) hZ w_99 w_89 (by decide) (by decide)) (g := (mkF m 24 #[.val (.ref vb), .val (.int (0 : Int32)), .val (.int cn), .val (.int cn), .val (.ref b3)] [(.int cn), (.int cp), (.int (0 : Int32)), (.ref b3), (.int (0 : Int32)), (.ref vb)])) rfl (by rw [hml]; rfl) (argsL := [(.int cp), (.int cn)]) (rest := [(.int (0 : Int32)), (.ref b3), (.int (0 : Int32)), (.ref vb)]) (lenOf pd__28II_29I rfl) rfl (by show 2 * 0 + _ ≤ _; exact Nat.le_of_eq rfl) (hb hby d31_24) (fun _ _ => ⟨rfl, e3, (by decide : 1 + 0 ≤ _), (by decide : 142 + 0 ≤ _)⟩)
  dsimp only [Pt.U, Pt.locs, Pt.cells, Pt.slots] at X8 l8 y8 z8 st8 hQ8
  rw [l8, y8, z8] at X8
  obtain ⟨rfl, Nq8, e8⟩ := hQ8
  have N8 := Fr.app N2 Nq8
  refine own_go st8 ?_
  show ∃ t o, Steps p.tables e below (T8.setTop (mkF m 27 #[.val (.ref vb), .val (.int (0 : Int32)), .val (.int cn), .val (.int cn), .val (.ref b3)] [(.int cn), (.int (0 : Int32)), (.ref b3), (.int (0 : Int32)), (.ref vb)])) t ∧ _
  have ge9 : n0 ≤ b3 := by omega
  obtain ⟨T10, h10, L10, X10, e10, N10, Kp10, V10, st10⟩ := own_cp X8 hx hZ hown (hw _ (List.mem_of_getElem? (i := 100) rfl)) (hw _ (List.mem_of_getElem? (i := 103) rfl)) (hw _ (List.mem_of_getElem? (i := 101) rfl)) (hw _ (List.mem_of_getElem? (i := 102) rfl)) e8 F4 V_b3 f2 (rfl : own_fit [] (0 : Int32)) (own_cap.le hcp) (by rw [own_fit.cl f2]; exact Nat.le_of_eq (Nat.zero_add _)) N8 ge9 (g := (mkF m 27 #[.val (.ref vb), .val (.int (0 : Int32)), .val (.int cn), .val (.int cn), .val (.ref b3)] [(.int cn), (.int (0 : Int32)), (.ref b3), (.int (0 : Int32)), (.ref vb)])) rfl (by rw [hml]; rfl) rfl (hb hby d31_27) (by decide) (W := 0) (by show 2 * 0 + _ ≤ _; exact Nat.le_of_eq rfl) (by decide +kernel)
  refine own_go st10 ?_
  have le_10 : h3.size ≤ h10.size := Kp10.1
  have sz11 : h0.size ≤ b3 := by omega
  have K10 : Keep h0 h10 [] := Keep.trans K3 Kp10 (allS (Or.inr sz11) all0)
  refine own_go (fun _ => XS.aload X10.here hx rfl (hb hby d31_30) rfl rfl) ?_
  show ∃ t o, Steps p.tables e below (T10.setTop (mkF m 32 #[.val (.ref vb), .val (.int (0 : Int32)), .val (.int cn), .val (.int cn), .val (.ref b3)] [(.ref b3)])) t ∧ _
  obtain ⟨fs, hr, hrun, hended, hW, hsame⟩ := X10.leave (v := some (.ref b3)) (fun h => by rw [Bd.returns] at h; cases h)
  refine ⟨_, _, ?_, hrun, hended, _, _, rfl, ?_, ⟨_, rfl⟩, hW, hsame.mono (by decide) (by decide)⟩
  · jvm_step X10.here [X10.here.top, hx, (hb hby d31_32), X10.method', Bd.returns, Value.isRef, FieldType.isReference]
    first | (intro acts; rw [hr _ acts rfl rfl rfl]) | rw [hr _ _ rfl rfl rfl]
    exact Steps.refl _
  · show Q_rmCrb Z _ _ _ _ _ h0 n0 _ T10.heap _
    rw [e10]
    exact ⟨b3, k3, rfl, N10, K10, V10, (by omega)⟩
theorem ef_rmCr (m : MethodId) (x0 : Nat) (x1 : Int32) (x2 : Int32) : entryFrame m #[(.ref x0), (.int x1), (.int x2)] 3 = mkF m 0 #[.val (.ref x0), .val (.int x1), .val (.int x2)] [] := by first | (simp [entryFrame, mkF, argsToLocals, Value.category]; done) | rfl
theorem d30_0 : decode jdk_65_method_132_code 0 = .ok (.iload_n 1, 1) := by decide +kernel
theorem d30_1 : decode jdk_65_method_132_code 1 = .ok (.ifCond .ne 9, 3) := by decide +kernel
theorem d30_4 : decode jdk_65_method_132_code 4 = .ok (.iload_n 2, 1) := by decide +kernel
theorem d30_5 : decode jdk_65_method_132_code 5 = .ok (.aload_n 0, 1) := by decide +kernel
theorem d30_6 : decode jdk_65_method_132_code 6 = .ok (.arraylength, 1) := by decide +kernel
theorem d30_7 : decode jdk_65_method_132_code 7 = .ok (.if_icmp .eq 10, 3) := by decide +kernel
theorem d30_17 : decode jdk_65_method_132_code 17 = .ok (.aload_n 0, 1) := by decide +kernel
theorem d30_18 : decode jdk_65_method_132_code 18 = .ok (.invokevirtual 310, 3) := by decide +kernel
theorem d30_21 : decode jdk_65_method_132_code 21 = .ok (.checkcast 311, 3) := by decide +kernel
theorem d30_24 : decode jdk_65_method_132_code 24 = .ok (.areturn, 1) := by decide +kernel
theorem d30_10 : decode jdk_65_method_132_code 10 = .ok (.aload_n 0, 1) := by decide +kernel
theorem d30_11 : decode jdk_65_method_132_code 11 = .ok (.iload_n 1, 1) := by decide +kernel
theorem d30_12 : decode jdk_65_method_132_code 12 = .ok (.iload_n 2, 1) := by decide +kernel
theorem d30_13 : decode jdk_65_method_132_code 13 = .ok (.invokestatic 339, 3) := by decide +kernel
theorem pd__28_5bBII_29_5bB : parseMethodDescriptor "([BII)[B" = some ⟨[(.array .byte), .int, .int], some (.array .byte)⟩ := by decide +kernel
theorem d30_16 : decode jdk_65_method_132_code 16 = .ok (.areturn, 1) := by decide +kernel
def Q_rmCr (Z : State) (vb : Nat) (kv : ClassId) (cp : Int32) (us : List Value) (cn : Int32) (h0 : Heap) (n0 : Nat) (v : Option Value) (h : Heap) (L : List Loc) : Prop := ∃ (nb : Nat), ∃ (kn : ClassId), v = some (.ref nb) ∧ Fr n0 L ∧ Keep h0 h [] ∧ Arv Z h nb kn .byte cn us (.int (0 : Int32)) ∧ (h0.size ≤ nb)
set_option maxRecDepth 65536 in
set_option maxHeartbeats 40000000 in
theorem rmCr (l : Launch) (Z : State) (a0 : Array Value) (hw : ∀ d ∈ tables_1, d.before a0 Z = true) (ws : List Jvm.Cond) (vb : Nat) (kv : ClassId) (cp : Int32) (us : List Value) (cn : Int32) (h0 : Heap) (n0 : Nat) (Z0 : n0 ≤ h0.size) (P1 : Exa Z h0 vb "[B") (P2 : Arv Z h0 vb kv .byte cp us (.int (0 : Int32))) (OLD : Old Z n0 h0) (f2 : own_fit us cn) (hcp : own_cap us cp) :
    MetFree l (⟨"java/util/Arrays", "copyOfRange", "([BII)[B"⟩ : MethodName) (head1 (Jvm.Cond.code (⟨"java/util/Arrays", "copyOfRange", "([BII)[B"⟩ : MethodName) jdk_65_method_132_code 3 (some (.array .byte)) :: ws) ({ frames := 2, cells := 1, slots := 142, locals := 34 } : Room)) (fun a U => a = #[(.ref vb), (.int (0 : Int32)), (.int cn)] ∧ Z.Warmed39 U.vm ∧ U.heap = h0) (fun _ _ _ _ _ => True) (fun _ U o U' => ∃ v L, o = .returned v ∧ Q_rmCr Z vb kv cp us cn h0 n0 v U'.heap L ∧ FrameEnd U o U' L ({ frames := 2, cells := 1, slots := 142, locals := 34 } : Room).cells ({ frames := 2, cells := 1, slots := 142, locals := 34 } : Room).slots) := by
  refine MetFree.of_bodySF (plainFor_of_name pn_java_util_Arrays) hisR ?_
  intro p e s m args below meth c s₁ Bd hml0 hP hK
  obtain ⟨rfl, hZ, hh⟩ := hP
  have hx := Bd.exec
  have hby := Bd.bytes
  have hml : c.maxLocals = 3 := hml0
  have hown : s.vm.findClass "java/util/Arrays" = some m.cls := findClass_of_methodNamed Bd.named
  have hnm := (name_of_methodNamed Bd.named Bd.method).1
  have X0 : Stand p l e ({ frames := 2, cells := 1, slots := 142, locals := 34 } : Room) s m #[(.ref vb), (.int (0 : Int32)), (.int cn)] below meth c s₁ [] 0 0 := Stand.of_body Bd
  have e0 : s₁.heap = h0 := by rw [← hh, Bd.state]; rfl
  have N0 := Fr.nil n0
  have pre0 : ∀ t, Steps p.tables e below (s₁.setTop (mkF m 0 #[.val (.ref vb), .val (.int (0 : Int32)), .val (.int cn)] [])) t → Steps p.tables e below (s₁.setTop (entryFrame m #[(.ref vb), (.int (0 : Int32)), (.int cn)] 3)) t := fun t k => castTop (ef_rmCr m vb (0 : Int32) cn) k
  have w_186 := hw _ (List.mem_of_getElem? (i := 186) rfl)
  have w_95 := hw _ (List.mem_of_getElem? (i := 95) rfl)
  have oz := OLD.1
  have lt_vb : vb < h0.size := P1.lt
  refine own_go (B := s₁.setTop (mkF m 0 #[.val (.ref vb), .val (.int (0 : Int32)), .val (.int cn)] [])) pre0 ?_
  show ∃ t o, Steps p.tables e below (s₁.setTop (mkF m 0 #[.val (.ref vb), .val (.int (0 : Int32)), .val (.int cn)] [])) t ∧ _
  refine own_go (fun _ => XS.iloadN X0.here hx rfl (hb hby d30_0) rfl) ?_
  show ∃ t o, Steps p.tables e below (s₁.setTop (mkF m 1 #[.val (.ref vb), .val (.int (0 : Int32)), .val (.int cn)] [(.int (0 : Int32))])) t ∧ _
  refine own_go (fun _ => XS.ifNo X0.here hx rfl (hb hby d30_1) rfl ((if0 _ _).trans (teq (by decide : (0 : Int32) = (0 : Int32))).2)) ?_
  refine own_go (fun _ => XS.iloadN X0.here hx rfl (hb hby d30_4) rfl) ?_
  refine own_go (fun _ => XS.aloadN X0.here hx rfl (hb hby d30_5) rfl rfl) ?_
  obtain ⟨cl3, Ar3, q3, S3, N3, H3, G3⟩ := id P2
  have ln3 : cl3.slots.size.toInt32 = cp := len_of S3 N3
  have al3 := X0.arraylength hx (by rw [e0]; exact Ar3.1) (State.isArrayOf_alike hZ.alike Ar3.2.1) (g := (mkF m 6 #[.val (.ref vb), .val (.int (0 : Int32)), .val (.int cn)] [(.ref vb), (.int cn)])) rfl rfl (hb hby d30_6)
  rw [ln3] at al3
  refine own_go al3 ?_
  show ∃ t o, Steps p.tables e below (s₁.setTop (mkF m 7 #[.val (.ref vb), .val (.int (0 : Int32)), .val (.int cn)] [(.int cp), (.int cn)])) t ∧ _
  by_cases hc4 : cn = cp
  · refine own_go (fun _ => XS.icmpYes X0.here hx rfl (pc0 := 7) (pc' := 17) rfl (hb hby d30_7) rfl (teq hc4).1 (by decide) (by decide)) ?_
    refine own_go (fun _ => XS.aloadN X0.here hx rfl (hb hby d30_17) rfl rfl) ?_
    show ∃ t o, Steps p.tables e below (s₁.setTop (mkF m 18 #[.val (.ref vb), .val (.int (0 : Int32)), .val (.int cn)] [(.ref vb)])) t ∧ _
    obtain ⟨T5, h5, X5, e5, E5, A5, Q5, st5⟩ := cloneH X0 hx hZ hown (hw _ (List.mem_of_getElem? (i := 226) rfl)) (hw _ (List.mem_of_getElem? (i := 227) rfl)) (hw _ (List.mem_of_getElem? (i := 231) rfl)) (hw _ (List.mem_of_getElem? (i := 229) rfl)) (hw _ (List.mem_of_getElem? (i := 230) rfl)) (hw _ (List.mem_of_getElem? (i := 232) rfl)) e0 (Arv.arh P2) P1 (g := (mkF m 18 #[.val (.ref vb), .val (.int (0 : Int32)), .val (.int cn)] [(.ref vb)])) rfl (by rw [hml]; rfl) rfl (hb hby d30_18) (by decide) (W := 0) (cap := 142) (by show 2 * 0 + _ ≤ _; exact Nat.le_of_eq rfl) (by decide) (own_c250c hcp) (by decide) (by decide)
    obtain ⟨b5, g5⟩ : ∃ z, z = h0.size := ⟨_, rfl⟩
    rw [← g5] at A5 Q5 st5
    refine own_go st5 ?_
    have le_5 : h0.size ≤ h5.size := E5.1
    have V_b5 : Arv Z h5 b5 kv .byte cp us (.int (0 : Int32)) := A5
    have lt_b5 : b5 < h5.size := V_b5.lt
    have K5 : Keep h0 h5 [] := Keep.ext (Keep.refl h0 []) E5
    obtain ⟨T6, X6, e6, st6⟩ := castY X5 hx hZ hown (hw _ (List.mem_of_getElem? (i := 233) rfl)) e5 (Ins.self Q5) (g := (mkF m 21 #[.val (.ref vb), .val (.int (0 : Int32)), .val (.int cn)] [(.ref b5)])) rfl rfl (hb hby d30_21)
    refine own_go st6 ?_
    have Vq : Arv Z h5 b5 kv .byte cn us (.int (0 : Int32)) := by rw [hc4]; exact V_b5
    show ∃ t o, Steps p.tables e below (T6.setTop (mkF m 24 #[.val (.ref vb), .val (.int (0 : Int32)), .val (.int cn)] [(.ref b5)])) t ∧ _
    obtain ⟨fs, hr, hrun, hended, hW, hsame⟩ := X6.leave (v := some (.ref b5)) (fun h => by rw [Bd.returns] at h; cases h)
    refine ⟨_, _, ?_, hrun, hended, _, _, rfl, ?_, ⟨_, rfl⟩, hW, hsame.mono (by decide) (by decide)⟩
    · jvm_step X6.here [X6.here.top, hx, (hb hby d30_24), X6.method', Bd.returns, Value.isRef, FieldType.isReference]
      first | (intro acts; rw [hr _ acts rfl rfl rfl]) | rw [hr _ _ rfl rfl rfl]
      exact Steps.refl _
    · show Q_rmCr Z _ _ _ _ _ h0 n0 _ T6.heap _
      rw [e6]
      exact ⟨b5, kv, rfl, N0, K5, Vq, (by omega)⟩
  · refine own_go (fun _ => XS.icmpNo X0.here hx rfl (hb hby d30_7) rfl (feq hc4).1) ?_
    refine own_go (fun _ => XS.aloadN X0.here hx rfl (hb hby d30_10) rfl rfl) ?_
    refine own_go (fun _ => XS.iloadN X0.here hx rfl (hb hby d30_11) rfl) ?_
    refine own_go (fun _ => XS.iloadN X0.here hx rfl (hb hby d30_12) rfl) ?_
    show ∃ t o, Steps p.tables e below (s₁.setTop (mkF m 13 #[.val (.ref vb), .val (.int (0 : Int32)), .val (.int cn)] [(.int cn), (.int (0 : Int32)), (.ref vb)])) t ∧ _
    obtain ⟨_, _, ⟨T7, L7, k7, n7⟩, -, X7, ⟨Lc7, hQ7, l7, y7, z7⟩, st7⟩ := Jvm.LawKit.callS X0 hx (y := (⟨"java/util/Arrays", "copyOfRangeByte", "([BII)[B"⟩ : MethodName)) hown (mvT hZ (hw _ (List.mem_of_getElem? (i := 184) rfl))) (mvT hZ (hw _ (List.mem_of_getElem? (i := 185) rfl))) (mvT hZ w_95) (mvT hZ w_186) (by decide) (backOf (W := 0) (rmCrb l Z a0 hw [] vb kv cp us cn h0 n0 Z0 P2 OLD f2 hcp (own_clt f2 hcp hc4 : cn < cp)) hZ w_186 w_95 (by decide) (by decide)) (g := (mkF m 13 #[.val (.ref vb), .val (.int (0 : Int32)), .val (.int cn)] [(.int cn), (.int (0 : Int32)), (.ref vb)])) rfl (by rw [hml]; rfl) (argsL := [(.ref vb), (.int (0 : Int32)), (.int cn)]) (rest := []) (lenOf pd__28_5bBII_29_5bB rfl) rfl (by show 2 * 0 + _ ≤ _; exact Nat.le_of_eq rfl) (hb hby d30_13) (fun _ _ => ⟨rfl, e0, (by decide : 0 + 1 ≤ _), (by decide : 0 + 142 ≤ _)⟩)
    dsimp only [Pt.U, Pt.locs, Pt.cells, Pt.slots] at X7 l7 y7 z7 st7 hQ7
    rw [l7, y7, z7] at X7
    obtain ⟨nb_7, kn_7, rfl, Nq7, Kp7, G7_0, H7_0⟩ := hQ7
    have N7 := Fr.app N0 Nq7
    refine own_go st7 ?_
    have le_7 : h0.size ≤ T7.heap.size := Kp7.1
    have K7 : Keep h0 T7.heap [] := Keep.trans (Keep.refl h0 []) Kp7 all0
    have lt_nb_7 : nb_7 < T7.heap.size := (G7_0).lt
    show ∃ t o, Steps p.tables e below (T7.setTop (mkF m 16 #[.val (.ref vb), .val (.int (0 : Int32)), .val (.int cn)] [(.ref nb_7)])) t ∧ _
    obtain ⟨fs, hr, hrun, hended, hW, hsame⟩ := X7.leave (v := some (.ref nb_7)) (fun h => by rw [Bd.returns] at h; cases h)
    refine ⟨_, _, ?_, hrun, hended, _, _, rfl, ?_, ⟨_, rfl⟩, hW, hsame.mono (by decide) (by decide)⟩
    · jvm_step X7.here [X7.here.top, hx, (hb hby d30_16), X7.method', Bd.returns, Value.isRef, FieldType.isReference]
      first | (intro acts; rw [hr _ acts rfl rfl rfl]) | rw [hr _ _ rfl rfl rfl]
      exact Steps.refl _
    · show Q_rmCr Z _ _ _ _ _ h0 n0 _ T7.heap _
      exact ⟨nb_7, kn_7, rfl, N7, K7, G7_0, H7_0⟩
theorem ef_rmGv (m : MethodId) (x0 : Nat) : entryFrame m #[(.ref x0)] 1 = mkF m 0 #[.val (.ref x0)] [] := by first | (simp [entryFrame, mkF, argsToLocals, Value.category]; done) | rfl
theorem d27_0 : decode jdk_68_method_64_code 0 = .ok (.aload_n 0, 1) := by decide +kernel
theorem d27_1 : decode jdk_68_method_64_code 1 = .ok (.getfield 15, 3) := by decide +kernel
theorem d27_4 : decode jdk_68_method_64_code 4 = .ok (.areturn, 1) := by decide +kernel
def Q_rmGv (Z : State) (sb : Nat) (vb : Nat) (h0 : Heap) (n0 : Nat) (v : Option Value) (h : Heap) (L : List Loc) : Prop := v = some (.ref vb) ∧ Fr n0 L ∧ h = h0
set_option maxRecDepth 65536 in
set_option maxHeartbeats 40000000 in
theorem rmGv (l : Launch) (Z : State) (a0 : Array Value) (hw : ∀ d ∈ tables_1, d.before a0 Z = true) (ws : List Jvm.Cond) (sb : Nat) (vb : Nat) (h0 : Heap) (n0 : Nat) (Z0 : n0 ≤ h0.size) (P1 : Fld Z h0 sb "java/lang/AbstractStringBuilder" "value" "[B" (.ref vb)) (OLD : Old Z n0 h0) :
    MetFree l (⟨"java/lang/AbstractStringBuilder", "getValue", "()[B"⟩ : MethodName) (head1 (Jvm.Cond.code (⟨"java/lang/AbstractStringBuilder", "getValue", "()[B"⟩ : MethodName) jdk_68_method_64_code 1 (some (.array .byte)) :: ws) ({ frames := 0, cells := 0, slots := 0, locals := 0 } : Room)) (fun a U => a = #[(.ref sb)] ∧ Z.Warmed39 U.vm ∧ U.heap = h0) (fun _ _ _ _ _ => True) (fun _ U o U' => ∃ v L, o = .returned v ∧ Q_rmGv Z sb vb h0 n0 v U'.heap L ∧ FrameEnd U o U' L ({ frames := 0, cells := 0, slots := 0, locals := 0 } : Room).cells ({ frames := 0, cells := 0, slots := 0, locals := 0 } : Room).slots) := by
  refine MetFree.of_bodySF (plainFor_of_name pn_java_lang_AbstractStringBuilder) hisR ?_
  intro p e s m args below meth c s₁ Bd hml0 hP hK
  obtain ⟨rfl, hZ, hh⟩ := hP
  have hx := Bd.exec
  have hby := Bd.bytes
  have hml : c.maxLocals = 1 := hml0
  have hown : s.vm.findClass "java/lang/AbstractStringBuilder" = some m.cls := findClass_of_methodNamed Bd.named
  have hnm := (name_of_methodNamed Bd.named Bd.method).1
  have X0 : Stand p l e ({ frames := 0, cells := 0, slots := 0, locals := 0 } : Room) s m #[(.ref sb)] below meth c s₁ [] 0 0 := Stand.of_body Bd
  have e0 : s₁.heap = h0 := by rw [← hh, Bd.state]; rfl
  have N0 := Fr.nil n0
  have pre0 : ∀ t, Steps p.tables e below (s₁.setTop (mkF m 0 #[.val (.ref sb)] [])) t → Steps p.tables e below (s₁.setTop (entryFrame m #[(.ref sb)] 1)) t := fun t k => castTop (ef_rmGv m sb) k
  have oz := OLD.1
  have lt_sb : sb < h0.size := P1.lt
  refine own_go (B := s₁.setTop (mkF m 0 #[.val (.ref sb)] [])) pre0 ?_
  show ∃ t o, Steps p.tables e below (s₁.setTop (mkF m 0 #[.val (.ref sb)] [])) t ∧ _
  refine own_go (fun _ => XS.aloadN X0.here hx rfl (hb hby d27_0) rfl rfl) ?_
  obtain ⟨T2, X2, e2, st2⟩ := getF X0 hx hZ hown (host := "") (Or.inl (hw _ (List.mem_of_getElem? (i := 38) rfl))) Via.refl e0 P1 (g := (mkF m 1 #[.val (.ref sb)] [(.ref sb)])) rfl rfl (hb hby d27_1)
  refine own_go st2 ?_
  show ∃ t o, Steps p.tables e below (T2.setTop (mkF m 4 #[.val (.ref sb)] [(.ref vb)])) t ∧ _
  obtain ⟨fs, hr, hrun, hended, hW, hsame⟩ := X2.leave (v := some (.ref vb)) (fun h => by rw [Bd.returns] at h; cases h)
  refine ⟨_, _, ?_, hrun, hended, _, _, rfl, ?_, ⟨_, rfl⟩, hW, hsame.mono (by decide) (by decide)⟩
  · jvm_step X2.here [X2.here.top, hx, (hb hby d27_4), X2.method', Bd.returns, Value.isRef, FieldType.isReference]
    first | (intro acts; rw [hr _ acts rfl rfl rfl]) | rw [hr _ _ rfl rfl rfl]
    exact Steps.refl _
  · show Q_rmGv Z _ _ h0 n0 _ T2.heap _
    rw [e2]
    exact ⟨rfl, N0, rfl⟩
theorem ef_rmABl (m : MethodId) (x0 : Nat) : entryFrame m #[(.ref x0)] 1 = mkF m 0 #[.val (.ref x0)] [] := by first | (simp [entryFrame, mkF, argsToLocals, Value.category]; done) | rfl
theorem d29_0 : decode jdk_68_method_6_code 0 = .ok (.aload_n 0, 1) := by decide +kernel
theorem d29_1 : decode jdk_68_method_6_code 1 = .ok (.getfield 79, 3) := by decide +kernel
theorem d29_4 : decode jdk_68_method_6_code 4 = .ok (.ireturn, 1) := by decide +kernel
def Q_rmABl (Z : State) (sb : Nat) (cn : Int32) (h0 : Heap) (n0 : Nat) (v : Option Value) (h : Heap) (L : List Loc) : Prop := v = some (.int cn) ∧ Fr n0 L ∧ h = h0
set_option maxRecDepth 65536 in
set_option maxHeartbeats 40000000 in
theorem rmABl (l : Launch) (Z : State) (a0 : Array Value) (hw : ∀ d ∈ tables_1, d.before a0 Z = true) (ws : List Jvm.Cond) (sb : Nat) (cn : Int32) (h0 : Heap) (n0 : Nat) (Z0 : n0 ≤ h0.size) (P1 : Fld Z h0 sb "java/lang/AbstractStringBuilder" "count" "I" (.int cn)) (OLD : Old Z n0 h0) :
    MetFree l (⟨"java/lang/AbstractStringBuilder", "length", "()I"⟩ : MethodName) (head1 (Jvm.Cond.code (⟨"java/lang/AbstractStringBuilder", "length", "()I"⟩ : MethodName) jdk_68_method_6_code 1 (some .int) :: ws) ({ frames := 0, cells := 0, slots := 0, locals := 0 } : Room)) (fun a U => a = #[(.ref sb)] ∧ Z.Warmed39 U.vm ∧ U.heap = h0) (fun _ _ _ _ _ => True) (fun _ U o U' => ∃ v L, o = .returned v ∧ Q_rmABl Z sb cn h0 n0 v U'.heap L ∧ FrameEnd U o U' L ({ frames := 0, cells := 0, slots := 0, locals := 0 } : Room).cells ({ frames := 0, cells := 0, slots := 0, locals := 0 } : Room).slots) := by
  refine MetFree.of_bodySF (plainFor_of_name pn_java_lang_AbstractStringBuilder) hisR ?_
  intro p e s m args below meth c s₁ Bd hml0 hP hK
  obtain ⟨rfl, hZ, hh⟩ := hP
  have hx := Bd.exec
  have hby := Bd.bytes
  have hml : c.maxLocals = 1 := hml0
  have hown : s.vm.findClass "java/lang/AbstractStringBuilder" = some m.cls := findClass_of_methodNamed Bd.named
  have hnm := (name_of_methodNamed Bd.named Bd.method).1
  have X0 : Stand p l e ({ frames := 0, cells := 0, slots := 0, locals := 0 } : Room) s m #[(.ref sb)] below meth c s₁ [] 0 0 := Stand.of_body Bd
  have e0 : s₁.heap = h0 := by rw [← hh, Bd.state]; rfl
  have N0 := Fr.nil n0
  have pre0 : ∀ t, Steps p.tables e below (s₁.setTop (mkF m 0 #[.val (.ref sb)] [])) t → Steps p.tables e below (s₁.setTop (entryFrame m #[(.ref sb)] 1)) t := fun t k => castTop (ef_rmABl m sb) k
  have oz := OLD.1
  have lt_sb : sb < h0.size := P1.lt
  refine own_go (B := s₁.setTop (mkF m 0 #[.val (.ref sb)] [])) pre0 ?_
  show ∃ t o, Steps p.tables e below (s₁.setTop (mkF m 0 #[.val (.ref sb)] [])) t ∧ _
  refine own_go (fun _ => XS.aloadN X0.here hx rfl (hb hby d29_0) rfl rfl) ?_
  obtain ⟨T2, X2, e2, st2⟩ := getF X0 hx hZ hown (host := "") (Or.inl (hw _ (List.mem_of_getElem? (i := 71) rfl))) Via.refl e0 P1 (g := (mkF m 1 #[.val (.ref sb)] [(.ref sb)])) rfl rfl (hb hby d29_1)
  refine own_go st2 ?_
  show ∃ t o, Steps p.tables e below (T2.setTop (mkF m 4 #[.val (.ref sb)] [(.int cn)])) t ∧ _
  obtain ⟨fs, hr, hrun, hended, hW, hsame⟩ := X2.leave (v := some (.int cn)) (fun h => by rw [Bd.returns] at h; cases h)
  refine ⟨_, _, ?_, hrun, hended, _, _, rfl, ?_, ⟨_, rfl⟩, hW, hsame.mono (by decide) (by decide)⟩
  · exact retI X2 hx Bd.returns (hb hby d29_4) hr
  · show Q_rmABl Z _ _ h0 n0 _ T2.heap _
    rw [e2]
    exact ⟨rfl, N0, rfl⟩
theorem ef_rmSBl (m : MethodId) (x0 : Nat) : entryFrame m #[(.ref x0)] 1 = mkF m 0 #[.val (.ref x0)] [] := by first | (simp [entryFrame, mkF, argsToLocals, Value.category]; done) | rfl
theorem d28_0 : decode jdk_67_method_93_code 0 = .ok (.aload_n 0, 1) := by decide +kernel
theorem d28_1 : decode jdk_67_method_93_code 1 = .ok (.invokespecial 343, 3) := by decide +kernel
theorem d28_4 : decode jdk_67_method_93_code 4 = .ok (.ireturn, 1) := by decide +kernel
def Q_rmSBl (Z : State) (sb : Nat) (cn : Int32) (h0 : Heap) (n0 : Nat) (v : Option Value) (h : Heap) (L : List Loc) : Prop := v = some (.int cn) ∧ Fr n0 L ∧ h = h0
set_option maxRecDepth 65536 in
set_option maxHeartbeats 40000000 in
theorem rmSBl (l : Launch) (Z : State) (a0 : Array Value) (hw : ∀ d ∈ tables_1, d.before a0 Z = true) (ws : List Jvm.Cond) (sb : Nat) (cn : Int32) (h0 : Heap) (n0 : Nat) (Z0 : n0 ≤ h0.size) (P1 : Exa Z h0 sb "java/lang/StringBuilder") (P2 : Fld Z h0 sb "java/lang/AbstractStringBuilder" "count" "I" (.int cn)) (OLD : Old Z n0 h0) :
    MetFree l (⟨"java/lang/StringBuilder", "length", "()I"⟩ : MethodName) (head1 (Jvm.Cond.code (⟨"java/lang/StringBuilder", "length", "()I"⟩ : MethodName) jdk_67_method_93_code 1 (some .int) :: ws) ({ frames := 1, cells := 0, slots := 0, locals := 12 } : Room)) (fun a U => a = #[(.ref sb)] ∧ Z.Warmed39 U.vm ∧ U.heap = h0) (fun _ _ _ _ _ => True) (fun _ U o U' => ∃ v L, o = .returned v ∧ Q_rmSBl Z sb cn h0 n0 v U'.heap L ∧ FrameEnd U o U' L ({ frames := 1, cells := 0, slots := 0, locals := 12 } : Room).cells ({ frames := 1, cells := 0, slots := 0, locals := 12 } : Room).slots) := by
  refine MetFree.of_bodySF (plainFor_of_name pn_java_lang_StringBuilder) hisR ?_
  intro p e s m args below meth c s₁ Bd hml0 hP hK
  obtain ⟨rfl, hZ, hh⟩ := hP
  have hx := Bd.exec
  have hby := Bd.bytes
  have hml : c.maxLocals = 1 := hml0
  have hown : s.vm.findClass "java/lang/StringBuilder" = some m.cls := findClass_of_methodNamed Bd.named
  have hnm := (name_of_methodNamed Bd.named Bd.method).1
  have X0 : Stand p l e ({ frames := 1, cells := 0, slots := 0, locals := 12 } : Room) s m #[(.ref sb)] below meth c s₁ [] 0 0 := Stand.of_body Bd
  have e0 : s₁.heap = h0 := by rw [← hh, Bd.state]; rfl
  have N0 := Fr.nil n0
  have pre0 : ∀ t, Steps p.tables e below (s₁.setTop (mkF m 0 #[.val (.ref sb)] [])) t → Steps p.tables e below (s₁.setTop (entryFrame m #[(.ref sb)] 1)) t := fun t k => castTop (ef_rmSBl m sb) k
  have w_174 := hw _ (List.mem_of_getElem? (i := 174) rfl)
  have w_179 := hw _ (List.mem_of_getElem? (i := 179) rfl)
  have oz := OLD.1
  have lt_sb : sb < h0.size := P1.lt
  refine own_go (B := s₁.setTop (mkF m 0 #[.val (.ref sb)] [])) pre0 ?_
  show ∃ t o, Steps p.tables e below (s₁.setTop (mkF m 0 #[.val (.ref sb)] [])) t ∧ _
  refine own_go (fun _ => XS.aloadN X0.here hx rfl (hb hby d28_0) rfl rfl) ?_
  show ∃ t o, Steps p.tables e below (s₁.setTop (mkF m 1 #[.val (.ref sb)] [(.ref sb)])) t ∧ _
  obtain ⟨_, _, ⟨T3, L3, k3, n3⟩, -, X3, ⟨Lc3, hQ3, l3, y3, z3⟩, st3⟩ := superBack X0 hx hZ (y := (⟨"java/lang/AbstractStringBuilder", "length", "()I"⟩ : MethodName)) hown (hw _ (List.mem_of_getElem? (i := 178) rfl)) (own_same (y := (⟨"java/lang/AbstractStringBuilder", "length", "()I"⟩ : MethodName)) (hw _ (List.mem_of_getElem? (i := 76) rfl)) rfl w_174 (by decide)) w_174 (hw _ (List.mem_of_getElem? (i := 55) rfl)) (by decide) (backOf (W := 0) (rmABl l Z a0 hw [] sb cn h0 n0 Z0 P2 OLD) hZ w_179 (hw _ (List.mem_of_getElem? (i := 32) rfl)) (by decide) (by decide)) e0 (Ins.self P1) (g := (mkF m 1 #[.val (.ref sb)] [(.ref sb)])) rfl (by rw [hml]; rfl) w_179 (argsL := []) (rest := []) (lenOf pd__28_29I rfl) rfl (by show 2 * 0 + _ ≤ _; exact Nat.le_of_eq rfl) (hb hby d28_1) (fun _ _ => ⟨rfl, e0, (by decide : 0 + 0 ≤ _), (by decide : 0 + 0 ≤ _)⟩)
  dsimp only [Pt.U, Pt.locs, Pt.cells, Pt.slots] at X3 l3 y3 z3 st3 hQ3
  rw [l3, y3, z3] at X3
  obtain ⟨rfl, Nq3, e3⟩ := hQ3
  have N3 := Fr.app N0 Nq3
  refine own_goT st3 ?_
  show ∃ t o, Steps p.tables e below (T3.setTop (mkF m 4 #[.val (.ref sb)] [(.int cn)])) t ∧ _
  obtain ⟨fs, hr, hrun, hended, hW, hsame⟩ := X3.leave (v := some (.int cn)) (fun h => by rw [Bd.returns] at h; cases h)
  refine ⟨_, _, ?_, hrun, hended, _, _, rfl, ?_, ⟨_, rfl⟩, hW, hsame.mono (by decide) (by decide)⟩
  · exact retI X3 hx Bd.returns (hb hby d28_4) hr
  · show Q_rmSBl Z _ _ h0 n0 _ T3.heap _
    rw [e3]
    exact ⟨rfl, N3, rfl⟩
theorem ef_rmABL1 (m : MethodId) (x0 : Nat) : entryFrame m #[(.ref x0)] 1 = mkF m 0 #[.val (.ref x0)] [] := by first | (simp [entryFrame, mkF, argsToLocals, Value.category]; done) | rfl
theorem d22_0 : decode jdk_68_method_68_code 0 = .ok (.getstatic 18, 3) := by decide +kernel
theorem d22_3 : decode jdk_68_method_68_code 3 = .ok (.ifCond .eq 14, 3) := by decide +kernel
theorem d22_6 : decode jdk_68_method_68_code 6 = .ok (.aload_n 0, 1) := by decide +kernel
theorem d22_7 : decode jdk_68_method_68_code 7 = .ok (.getfield 22, 3) := by decide +kernel
theorem d22_10 : decode jdk_68_method_68_code 10 = .ok (.ifCond .ne 7, 3) := by decide +kernel
theorem d22_13 : decode jdk_68_method_68_code 13 = .ok (.iconst 1, 1) := by decide +kernel
theorem d22_14 : decode jdk_68_method_68_code 14 = .ok (.goto 4, 3) := by decide +kernel
theorem d22_18 : decode jdk_68_method_68_code 18 = .ok (.ireturn, 1) := by decide +kernel
def Q_rmABL1 (Z : State) (sb : Nat) (zc : Int32) (h0 : Heap) (n0 : Nat) (v : Option Value) (h : Heap) (L : List Loc) : Prop := v = some (.int (1 : Int32)) ∧ Fr n0 L ∧ h = h0
set_option maxRecDepth 65536 in
set_option maxHeartbeats 40000000 in
theorem rmABL1 (l : Launch) (Z : State) (a0 : Array Value) (hw : ∀ d ∈ tables_1, d.before a0 Z = true) (ws : List Jvm.Cond) (sb : Nat) (zc : Int32) (h0 : Heap) (n0 : Nat) (Z0 : n0 ≤ h0.size) (P1 : Fld Z h0 sb "java/lang/AbstractStringBuilder" "coder" "B" (.int (0 : Int32))) (OLD : Old Z n0 h0) (P2 : Sta Z Z.heap "java/lang/String" "COMPACT_STRINGS" "Z" (.int zc)) (hzc : ¬ (zc = (0 : Int32))) :
    MetFree l (⟨"java/lang/AbstractStringBuilder", "isLatin1", "()Z"⟩ : MethodName) (head1 (Jvm.Cond.code (⟨"java/lang/AbstractStringBuilder", "isLatin1", "()Z"⟩ : MethodName) jdk_68_method_68_code 1 (some .boolean) :: ws) ({ frames := 0, cells := 0, slots := 0, locals := 0 } : Room)) (fun a U => a = #[(.ref sb)] ∧ Z.Warmed39 U.vm ∧ U.heap = h0) (fun _ _ _ _ _ => True) (fun _ U o U' => ∃ v L, o = .returned v ∧ Q_rmABL1 Z sb zc h0 n0 v U'.heap L ∧ FrameEnd U o U' L ({ frames := 0, cells := 0, slots := 0, locals := 0 } : Room).cells ({ frames := 0, cells := 0, slots := 0, locals := 0 } : Room).slots) := by
  refine MetFree.of_bodySF (plainFor_of_name pn_java_lang_AbstractStringBuilder) hisR ?_
  intro p e s m args below meth c s₁ Bd hml0 hP hK
  obtain ⟨rfl, hZ, hh⟩ := hP
  have hx := Bd.exec
  have hby := Bd.bytes
  have hml : c.maxLocals = 1 := hml0
  have hown : s.vm.findClass "java/lang/AbstractStringBuilder" = some m.cls := findClass_of_methodNamed Bd.named
  have hnm := (name_of_methodNamed Bd.named Bd.method).1
  have X0 : Stand p l e ({ frames := 0, cells := 0, slots := 0, locals := 0 } : Room) s m #[(.ref sb)] below meth c s₁ [] 0 0 := Stand.of_body Bd
  have e0 : s₁.heap = h0 := by rw [← hh, Bd.state]; rfl
  have N0 := Fr.nil n0
  have pre0 : ∀ t, Steps p.tables e below (s₁.setTop (mkF m 0 #[.val (.ref sb)] [])) t → Steps p.tables e below (s₁.setTop (entryFrame m #[(.ref sb)] 1)) t := fun t k => castTop (ef_rmABL1 m sb) k
  have oz := OLD.1
  have lt_sb : sb < h0.size := P1.lt
  refine own_go (B := s₁.setTop (mkF m 0 #[.val (.ref sb)] [])) pre0 ?_
  show ∃ t o, Steps p.tables e below (s₁.setTop (mkF m 0 #[.val (.ref sb)] [])) t ∧ _
  obtain ⟨T3, X3, e3, st3⟩ := getS2 X0 hx hZ hown (host := "") (Or.inl (hw _ (List.mem_of_getElem? (i := 35) rfl))) Via.refl e0 (Sta.ext OLD.2 P2) (g := (mkF m 0 #[.val (.ref sb)] [])) rfl (hb hby d22_0)
  refine own_go st3 ?_
  show ∃ t o, Steps p.tables e below (T3.setTop (mkF m 3 #[.val (.ref sb)] [(.int zc)])) t ∧ _
  refine own_go (fun _ => XS.ifNo X3.here hx rfl (hb hby d22_3) rfl ((if0 _ _).trans (feq hzc).1)) ?_
  refine own_go (fun _ => XS.aloadN X3.here hx rfl (hb hby d22_6) rfl rfl) ?_
  obtain ⟨T4, X4, e4, st4⟩ := getF X3 hx hZ hown (host := "") (Or.inl (hw _ (List.mem_of_getElem? (i := 40) rfl))) Via.refl e3 P1 (g := (mkF m 7 #[.val (.ref sb)] [(.ref sb)])) rfl rfl (hb hby d22_7)
  refine own_go st4 ?_
  show ∃ t o, Steps p.tables e below (T4.setTop (mkF m 10 #[.val (.ref sb)] [(.int (0 : Int32))])) t ∧ _
  refine own_go (fun _ => XS.ifNo X4.here hx rfl (hb hby d22_10) rfl ((if0 _ _).trans (teq (by decide : (0 : Int32) = (0 : Int32))).2)) ?_
  refine own_go (fun _ => XS.iconst X4.here hx rfl (hb hby d22_13)) ?_
  refine own_go (fun _ => XS.goto X4.here hx rfl (pc0 := 14) (pc' := 18) rfl (hb hby d22_14) (by decide) (by decide)) ?_
  show ∃ t o, Steps p.tables e below (T4.setTop (mkF m 18 #[.val (.ref sb)] [(.int (1 : Int32))])) t ∧ _
  obtain ⟨fs, hr, hrun, hended, hW, hsame⟩ := X4.leave (v := some (.int (1 : Int32))) (fun h => by rw [Bd.returns] at h; cases h)
  refine ⟨_, _, ?_, hrun, hended, _, _, rfl, ?_, ⟨_, rfl⟩, hW, hsame.mono (by decide) (by decide)⟩
  · exact retN X4 hx (t := .boolean) Bd.returns (by simp) (hb hby d22_18) hr
  · show Q_rmABL1 Z _ _ h0 n0 _ T4.heap _
    rw [e4]
    exact ⟨rfl, N0, rfl⟩
theorem ef_rmST2 (m : MethodId) (x0 : Nat) (x1 : Nat) : entryFrame m #[(.ref x0), (.ref x1), .null] 5 = mkF m 0 #[.val (.ref x0), .val (.ref x1), .val .null, .unset, .unset] [] := by first | (simp [entryFrame, mkF, argsToLocals, Value.category]; done) | rfl
theorem d26_0 : decode jdk_42_method_150_code 0 = .ok (.aload_n 0, 1) := by decide +kernel
theorem d26_1 : decode jdk_42_method_150_code 1 = .ok (.invokespecial 1, 3) := by decide +kernel
theorem d26_4 : decode jdk_42_method_150_code 4 = .ok (.aload_n 1, 1) := by decide +kernel
theorem d26_5 : decode jdk_42_method_150_code 5 = .ok (.invokevirtual 552, 3) := by decide +kernel
theorem pd__28_29_5bB : parseMethodDescriptor "()[B" = some ⟨[], some (.array .byte)⟩ := by decide +kernel
theorem d26_8 : decode jdk_42_method_150_code 8 = .ok (.astore_n 3, 1) := by decide +kernel
theorem d26_9 : decode jdk_42_method_150_code 9 = .ok (.aload_n 1, 1) := by decide +kernel
theorem d26_10 : decode jdk_42_method_150_code 10 = .ok (.invokevirtual 549, 3) := by decide +kernel
theorem d26_13 : decode jdk_42_method_150_code 13 = .ok (.istore 4, 2) := by decide +kernel
theorem d26_15 : decode jdk_42_method_150_code 15 = .ok (.aload_n 1, 1) := by decide +kernel
theorem d26_16 : decode jdk_42_method_150_code 16 = .ok (.invokevirtual 1047, 3) := by decide +kernel
theorem pd__28_29Z : parseMethodDescriptor "()Z" = some ⟨[], some .boolean⟩ := by decide +kernel
theorem d26_19 : decode jdk_42_method_150_code 19 = .ok (.ifCond .eq 22, 3) := by decide +kernel
theorem d26_22 : decode jdk_42_method_150_code 22 = .ok (.aload_n 0, 1) := by decide +kernel
theorem d26_23 : decode jdk_42_method_150_code 23 = .ok (.iconst 0, 1) := by decide +kernel
theorem d26_24 : decode jdk_42_method_150_code 24 = .ok (.putfield 15, 3) := by decide +kernel
theorem d26_27 : decode jdk_42_method_150_code 27 = .ok (.aload_n 0, 1) := by decide +kernel
theorem d26_28 : decode jdk_42_method_150_code 28 = .ok (.aload_n 3, 1) := by decide +kernel
theorem d26_29 : decode jdk_42_method_150_code 29 = .ok (.iconst 0, 1) := by decide +kernel
theorem d26_30 : decode jdk_42_method_150_code 30 = .ok (.iload 4, 2) := by decide +kernel
theorem d26_32 : decode jdk_42_method_150_code 32 = .ok (.invokestatic 54, 3) := by decide +kernel
theorem d26_35 : decode jdk_42_method_150_code 35 = .ok (.putfield 9, 3) := by decide +kernel
theorem d26_38 : decode jdk_42_method_150_code 38 = .ok (.goto 59, 3) := by decide +kernel
theorem d26_97 : decode jdk_42_method_150_code 97 = .ok (.return_, 1) := by decide +kernel
def Q_rmST2 (Z : State) (a1 : Nat) (sb : Nat) (vb : Nat) (kv : ClassId) (cp : Int32) (us : List Value) (cn : Int32) (zc : Int32) (h0 : Heap) (n0 : Nat) (v : Option Value) (h : Heap) (L : List Loc) : Prop := ∃ (tb : Nat), ∃ (kb : ClassId), v = none ∧ Fr n0 L ∧ Keep h0 h [a1] ∧ Exa Z h a1 "java/lang/String" ∧ Fld Z h a1 "java/lang/String" "value" "[B" (.ref tb) ∧ Fld Z h a1 "java/lang/String" "coder" "B" (.int (0 : Int32)) ∧ Arv Z h tb kb .byte cn us (.int (0 : Int32)) ∧ (h0.size ≤ tb)
set_option maxRecDepth 65536 in
set_option maxHeartbeats 40000000 in
theorem rmST2 (l : Launch) (Z : State) (a0 : Array Value) (hw : ∀ d ∈ tables_1, d.before a0 Z = true) (ws : List Jvm.Cond) (a1 : Nat) (sb : Nat) (vb : Nat) (kv : ClassId) (cp : Int32) (us : List Value) (cn : Int32) (zc : Int32) (h0 : Heap) (n0 : Nat) (Z0 : n0 ≤ h0.size) (P1 : Exa Z h0 a1 "java/lang/String") (P2 : Fld Z h0 a1 "java/lang/String" "value" "[B" .null) (P3 : Fld Z h0 a1 "java/lang/String" "coder" "B" (.int (0 : Int32))) (P4 : Exa Z h0 sb "java/lang/StringBuilder") (P5 : Fld Z h0 sb "java/lang/AbstractStringBuilder" "value" "[B" (.ref vb)) (P6 : Fld Z h0 sb "java/lang/AbstractStringBuilder" "coder" "B" (.int (0 : Int32))) (P7 : Fld Z h0 sb "java/lang/AbstractStringBuilder" "count" "I" (.int cn)) (P8 : Exa Z h0 vb "[B") (P9 : Arv Z h0 vb kv .byte cp us (.int (0 : Int32))) (OLD : Old Z n0 h0) (P10 : Sta Z Z.heap "java/lang/String" "COMPACT_STRINGS" "Z" (.int zc)) (hzc : ¬ (zc = (0 : Int32))) (f2 : own_fit us cn) (hcp : own_cap us cp) (ga : n0 ≤ a1) (ha2 : vb ≠ a1) :
    MetFree l (⟨"java/lang/String", "<init>", "(Ljava/lang/AbstractStringBuilder;Ljava/lang/Void;)V"⟩ : MethodName) (head1 (Jvm.Cond.code (⟨"java/lang/String", "<init>", "(Ljava/lang/AbstractStringBuilder;Ljava/lang/Void;)V"⟩ : MethodName) jdk_42_method_150_code 5 none :: ws) ({ frames := 3, cells := 1, slots := 142, locals := 49 } : Room)) (fun a U => a = #[(.ref a1), (.ref sb), .null] ∧ Z.Warmed39 U.vm ∧ U.heap = h0) (fun _ _ _ _ _ => True) (fun _ U o U' => ∃ v L, o = .returned v ∧ Q_rmST2 Z a1 sb vb kv cp us cn zc h0 n0 v U'.heap L ∧ FrameEnd U o U' L ({ frames := 3, cells := 1, slots := 142, locals := 49 } : Room).cells ({ frames := 3, cells := 1, slots := 142, locals := 49 } : Room).slots) := by
  refine MetFree.of_bodySF (plainFor_of_name pn_java_lang_String) hisR ?_
  intro p e s m args below meth c s₁ Bd hml0 hP hK
  obtain ⟨rfl, hZ, hh⟩ := hP
  have hx := Bd.exec
  have hby := Bd.bytes
  have hml : c.maxLocals = 5 := hml0
  have hown : s.vm.findClass "java/lang/String" = some m.cls := findClass_of_methodNamed Bd.named
  have hnm := (name_of_methodNamed Bd.named Bd.method).1
  have X0 : Stand p l e ({ frames := 3, cells := 1, slots := 142, locals := 49 } : Room) s m #[(.ref a1), (.ref sb), .null] below meth c s₁ [] 0 0 := Stand.of_body Bd
  have e0 : s₁.heap = h0 := by rw [← hh, Bd.state]; rfl
  have N0 := Fr.nil n0
  have pre0 : ∀ t, Steps p.tables e below (s₁.setTop (mkF m 0 #[.val (.ref a1), .val (.ref sb), .val .null, .unset, .unset] [])) t → Steps p.tables e below (s₁.setTop (entryFrame m #[(.ref a1), (.ref sb), .null] 5)) t := fun t k => castTop (ef_rmST2 m a1 sb) k
  have w_138 := hw _ (List.mem_of_getElem? (i := 138) rfl)
  have w_170 := hw _ (List.mem_of_getElem? (i := 170) rfl)
  have w_183 := hw _ (List.mem_of_getElem? (i := 183) rfl)
  have w_32 := hw _ (List.mem_of_getElem? (i := 32) rfl)
  have w_43 := hw _ (List.mem_of_getElem? (i := 43) rfl)
  have w_44 := hw _ (List.mem_of_getElem? (i := 44) rfl)
  have w_45 := hw _ (List.mem_of_getElem? (i := 45) rfl)
  have w_95 := hw _ (List.mem_of_getElem? (i := 95) rfl)
  have oz := OLD.1
  have lt_a1 : a1 < h0.size := P1.lt
  have lt_sb : sb < h0.size := P4.lt
  have lt_vb : vb < h0.size := P8.lt
  refine own_go (B := s₁.setTop (mkF m 0 #[.val (.ref a1), .val (.ref sb), .val .null, .unset, .unset] [])) pre0 ?_
  show ∃ t o, Steps p.tables e below (s₁.setTop (mkF m 0 #[.val (.ref a1), .val (.ref sb), .val .null, .unset, .unset] [])) t ∧ _
  refine own_go (fun _ => XS.aloadN X0.here hx rfl (hb hby d26_0) rfl rfl) ?_
  show ∃ t o, Steps p.tables e below (s₁.setTop (mkF m 1 #[.val (.ref a1), .val (.ref sb), .val .null, .unset, .unset] [(.ref a1)])) t ∧ _
  obtain ⟨T11, X11, e11, st11⟩ := initO X0 hx hZ hown (hw _ (List.mem_of_getElem? (i := 166) rfl)) (hw _ (List.mem_of_getElem? (i := 7) rfl)) (hw _ (List.mem_of_getElem? (i := 8) rfl)) e0 (g := (mkF m 1 #[.val (.ref a1), .val (.ref sb), .val .null, .unset, .unset] [(.ref a1)])) rfl (by rw [hml]; rfl) rfl (hb hby d26_1) (by decide) (W := 0) (by show 2 * 0 + _ ≤ _; exact Nat.le_of_eq rfl) (by decide)
  refine own_go st11 ?_
  refine own_go (fun _ => XS.aloadN X11.here hx rfl (hb hby d26_4) rfl rfl) ?_
  show ∃ t o, Steps p.tables e below (T11.setTop (mkF m 5 #[.val (.ref a1), .val (.ref sb), .val .null, .unset, .unset] [(.ref sb)])) t ∧ _
  obtain ⟨cq12, kq12, q12a, q12b, q12c⟩ := isOf hZ e11 P4
  obtain ⟨_, _, ⟨T12, L12, k12, n12⟩, -, X12, ⟨Lc12, hQ12, l12, y12, z12⟩, st12⟩ := X11.virtualBack hx (y := (⟨"java/lang/AbstractStringBuilder", "getValue", "()[B"⟩ : MethodName)) (z := (⟨"java/lang/AbstractStringBuilder", "getValue", "()[B"⟩ : MethodName)) hown (mvT hZ (hw _ (List.mem_of_getElem? (i := 167) rfl))) (mvT hZ (hw _ (List.mem_of_getElem? (i := 168) rfl))) (notFace_of_selects (args := #[]) (mvT hZ w_170)) (mvT hZ w_170) (mvT hZ (hw _ (List.mem_of_getElem? (i := 169) rfl))) (by decide) (backOf (W := 0) (rmGv l Z a0 hw [] sb vb h0 n0 Z0 P5 OLD) hZ (hw _ (List.mem_of_getElem? (i := 171) rfl)) w_32 (by decide) (by decide)) q12a q12c (g := (mkF m 5 #[.val (.ref a1), .val (.ref sb), .val .null, .unset, .unset] [(.ref sb)])) rfl (by rw [hml]; rfl) (Steps.refl _) (argsL := []) (rest := []) (lenOf pd__28_29_5bB rfl) rfl (by show 2 * 0 + _ ≤ _; exact Nat.le_of_eq rfl) (hb hby d26_5) (fun _ _ => ⟨rfl, e11, (by decide : 0 + 0 ≤ _), (by decide : 0 + 0 ≤ _)⟩)
  dsimp only [Pt.U, Pt.locs, Pt.cells, Pt.slots] at X12 l12 y12 z12 st12 hQ12
  rw [l12, y12, z12] at X12
  obtain ⟨rfl, Nq12, e12⟩ := hQ12
  have N12 := Fr.app N0 Nq12
  refine own_goT st12 ?_
  refine own_go (fun _ => XS.astoreN X12.here hx rfl (hb hby d26_8) rfl rfl (l' := #[.val (.ref a1), .val (.ref sb), .val .null, .val (.ref vb), .unset]) rfl) ?_
  refine own_go (fun _ => XS.aloadN X12.here hx rfl (hb hby d26_9) rfl rfl) ?_
  show ∃ t o, Steps p.tables e below (T12.setTop (mkF m 10 #[.val (.ref a1), .val (.ref sb), .val .null, .val (.ref vb), .unset] [(.ref sb)])) t ∧ _
  obtain ⟨cq13, kq13, q13a, q13b, q13c⟩ := isOf hZ e12 P4
  obtain ⟨_, _, ⟨T13, L13, k13, n13⟩, -, X13, ⟨Lc13, hQ13, l13, y13, z13⟩, st13⟩ := X12.virtualBack hx (y := (⟨"java/lang/AbstractStringBuilder", "length", "()I"⟩ : MethodName)) (z := (⟨"java/lang/StringBuilder", "length", "()I"⟩ : MethodName)) hown (mvT hZ (hw _ (List.mem_of_getElem? (i := 172) rfl))) (mvT hZ (hw _ (List.mem_of_getElem? (i := 173) rfl))) (own_nfo (args := #[]) (mvT hZ (hw _ (List.mem_of_getElem? (i := 76) rfl))) rfl) (mvT hZ (hw _ (List.mem_of_getElem? (i := 175) rfl))) (mvT hZ (hw _ (List.mem_of_getElem? (i := 176) rfl))) (by decide) (backOf (W := 0) (rmSBl l Z a0 hw [] sb cn h0 n0 Z0 P4 P7 OLD) hZ (hw _ (List.mem_of_getElem? (i := 177) rfl)) (hw _ (List.mem_of_getElem? (i := 24) rfl)) (by decide) (by decide)) q13a q13c (g := (mkF m 10 #[.val (.ref a1), .val (.ref sb), .val .null, .val (.ref vb), .unset] [(.ref sb)])) rfl (by rw [hml]; rfl) (Steps.refl _) (argsL := []) (rest := []) (lenOf pd__28_29I rfl) rfl (by show 2 * 0 + _ ≤ _; exact Nat.le_of_eq rfl) (hb hby d26_10) (fun _ _ => ⟨rfl, e12, (by decide : 0 + 0 ≤ _), (by decide : 0 + 0 ≤ _)⟩)
  dsimp only [Pt.U, Pt.locs, Pt.cells, Pt.slots] at X13 l13 y13 z13 st13 hQ13
  rw [l13, y13, z13] at X13
  obtain ⟨rfl, Nq13, e13⟩ := hQ13
  have N13 := Fr.app N12 Nq13
  refine own_goT st13 ?_
  refine own_go (fun _ => XS.istore X13.here hx rfl (hb hby d26_13) rfl (l' := #[.val (.ref a1), .val (.ref sb), .val .null, .val (.ref vb), .val (.int cn)]) rfl) ?_
  refine own_go (fun _ => XS.aloadN X13.here hx rfl (hb hby d26_15) rfl rfl) ?_
  show ∃ t o, Steps p.tables e below (T13.setTop (mkF m 16 #[.val (.ref a1), .val (.ref sb), .val .null, .val (.ref vb), .val (.int cn)] [(.ref sb)])) t ∧ _
  obtain ⟨cq14, kq14, q14a, q14b, q14c⟩ := isOf hZ e13 P4
  obtain ⟨_, _, ⟨T14, L14, k14, n14⟩, -, X14, ⟨Lc14, hQ14, l14, y14, z14⟩, st14⟩ := X13.virtualBack hx (y := (⟨"java/lang/AbstractStringBuilder", "isLatin1", "()Z"⟩ : MethodName)) (z := (⟨"java/lang/AbstractStringBuilder", "isLatin1", "()Z"⟩ : MethodName)) hown (mvT hZ (hw _ (List.mem_of_getElem? (i := 180) rfl))) (mvT hZ (hw _ (List.mem_of_getElem? (i := 136) rfl))) (notFace_of_selects (args := #[]) (mvT hZ w_138)) (mvT hZ w_138) (mvT hZ (hw _ (List.mem_of_getElem? (i := 137) rfl))) (by decide) (backOf (W := 0) (rmABL1 l Z a0 hw [] sb zc h0 n0 Z0 P6 OLD P10 hzc) hZ (hw _ (List.mem_of_getElem? (i := 139) rfl)) w_32 (by decide) (by decide)) q14a q14c (g := (mkF m 16 #[.val (.ref a1), .val (.ref sb), .val .null, .val (.ref vb), .val (.int cn)] [(.ref sb)])) rfl (by rw [hml]; rfl) (Steps.refl _) (argsL := []) (rest := []) (lenOf pd__28_29Z rfl) rfl (by show 2 * 0 + _ ≤ _; exact Nat.le_of_eq rfl) (hb hby d26_16) (fun _ _ => ⟨rfl, e13, (by decide : 0 + 0 ≤ _), (by decide : 0 + 0 ≤ _)⟩)
  dsimp only [Pt.U, Pt.locs, Pt.cells, Pt.slots] at X14 l14 y14 z14 st14 hQ14
  rw [l14, y14, z14] at X14
  obtain ⟨rfl, Nq14, e14⟩ := hQ14
  have N14 := Fr.app N13 Nq14
  refine own_goT st14 ?_
  show ∃ t o, Steps p.tables e below (T14.setTop (mkF m 19 #[.val (.ref a1), .val (.ref sb), .val .null, .val (.ref vb), .val (.int cn)] [(.int (1 : Int32))])) t ∧ _
  refine own_go (fun _ => XS.ifNo X14.here hx rfl (hb hby d26_19) rfl ((if0 _ _).trans (feq (by decide : ¬ ((1 : Int32) = (0 : Int32)))).1)) ?_
  refine own_go (fun _ => XS.aloadN X14.here hx rfl (hb hby d26_22) rfl rfl) ?_
  refine own_go (fun _ => XS.iconst X14.here hx rfl (hb hby d26_23)) ?_
  obtain ⟨T15, h15, X15, e15, W15, st15⟩ := putFN X14 hx hZ hown (hw _ (List.mem_of_getElem? (i := 70) rfl)) Via.refl e14 P3 P1 (Or.inr ⟨w_45, rfl, hnm⟩) w_43 (ty := .byte) (v' := (.int (0 : Int32).toInt8.toInt32)) (by decide) rfl (fits_nar_byte _) (g := (mkF m 24 #[.val (.ref a1), .val (.ref sb), .val .null, .val (.ref vb), .val (.int cn)] [(.int (0 : Int32)), (.ref a1)])) rfl rfl (hb hby d26_24)
  refine own_go st15 ?_
  have le_15 : h0.size ≤ h15.size := Nat.le_of_eq W15.size.symm
  have K15 : Keep h0 h15 [a1] := Keep.wr (Keep.refl h0 [a1]) W15 (Or.inl (List.mem_of_getElem? (i := 0) rfl))
  have N15 := Fr.snoc X15 N14 ga
  have Fw15 := Fld.same W15 P3
  have Fcz : Fld Z h15 a1 "java/lang/String" "coder" "B" (.int (0 : Int32)) := Fw15
  refine own_go (fun _ => XS.aloadN X15.here hx rfl (hb hby d26_27) rfl rfl) ?_
  refine own_go (fun _ => XS.aloadN X15.here hx rfl (hb hby d26_28) rfl rfl) ?_
  refine own_go (fun _ => XS.iconst X15.here hx rfl (hb hby d26_29)) ?_
  refine own_go (fun _ => XS.iload X15.here hx rfl (hb hby d26_30) rfl) ?_
  show ∃ t o, Steps p.tables e below (T15.setTop (mkF m 32 #[.val (.ref a1), .val (.ref sb), .val .null, .val (.ref vb), .val (.int cn)] [(.int cn), (.int (0 : Int32)), (.ref vb), (.ref a1)])) t ∧ _
  have F16 := (Exa.wr W15 P8)
  have F17 := (Arv.other P9 W15 ha2)
  have F18 := (Old.wr OLD W15 ga)
  have zl19 : n0 ≤ h15.size := by omega
  obtain ⟨_, _, ⟨T20, L20, k20, n20⟩, -, X20, ⟨Lc20, hQ20, l20, y20, z20⟩, st20⟩ := Jvm.LawKit.callS X15 hx (y := (⟨"java/util/Arrays", "copyOfRange", "([BII)[B"⟩ : MethodName)) hown (mvT hZ (hw _ (List.mem_of_getElem? (i := 181) rfl))) (mvT hZ (hw _ (List.mem_of_getElem? (i := 182) rfl))) (mvT hZ w_95) (mvT hZ w_183) (by decide) (backOf (W := 1) (rmCr l Z a0 hw [] vb kv cp us cn h15 n0 zl19 F16 F17 F18 f2 hcp) hZ w_183 w_95 (by decide) (by decide)) (g := (mkF m 32 #[.val (.ref a1), .val (.ref sb), .val .null, .val (.ref vb), .val (.int cn)] [(.int cn), (.int (0 : Int32)), (.ref vb), (.ref a1)])) rfl (by rw [hml]; rfl) (argsL := [(.ref vb), (.int (0 : Int32)), (.int cn)]) (rest := [(.ref a1)]) (lenOf pd__28_5bBII_29_5bB rfl) rfl (by show 2 * 0 + _ ≤ _; exact Nat.le_of_eq rfl) (hb hby d26_32) (fun _ _ => ⟨rfl, e15, (by decide : 0 + 1 ≤ _), (by decide : 0 + 142 ≤ _)⟩)
  dsimp only [Pt.U, Pt.locs, Pt.cells, Pt.slots] at X20 l20 y20 z20 st20 hQ20
  rw [l20, y20, z20] at X20
  obtain ⟨nb_20, kn_20, rfl, Nq20, Kp20, G20_0, H20_0⟩ := hQ20
  have N20 := Fr.app N15 Nq20
  refine own_go st20 ?_
  have le_20 : h15.size ≤ T20.heap.size := Kp20.1
  have K20 : Keep h0 T20.heap [a1] := Keep.trans K15 Kp20 all0
  have lt_nb_20 : nb_20 < T20.heap.size := (G20_0).lt
  have F21 := (Exa.keep (Exa.wr W15 P1) Kp20)
  have F22 := (Fld.keep (Fld.other W15 P2 (Or.inr (slot_ne (a0 := a0) (Or.inr w_44) (Or.inr w_45) (by decide) (t := (.array .byte)) (t' := .byte) (by decide) (by decide)))) Kp20 nin0)
  obtain ⟨T23, h23, X23, e23, W23, st23⟩ := putF X20 hx hZ hown (host := "") (Or.inl (hw _ (List.mem_of_getElem? (i := 63) rfl))) Via.refl rfl F22 F21 (Or.inr ⟨w_44, rfl, hnm⟩) w_43 (ty := (.array .byte)) (by decide) rfl rfl (g := (mkF m 35 #[.val (.ref a1), .val (.ref sb), .val .null, .val (.ref vb), .val (.int cn)] [(.ref nb_20), (.ref a1)])) rfl rfl (hb hby d26_35)
  refine own_go st23 ?_
  have le_23 : T20.heap.size ≤ h23.size := Nat.le_of_eq W23.size.symm
  have K23 : Keep h0 h23 [a1] := Keep.wr K20 W23 (Or.inl (List.mem_of_getElem? (i := 0) rfl))
  have N23 := Fr.snoc X23 N20 ga
  have Fw23 := Fld.same W23 F22
  refine own_go (fun _ => XS.goto X23.here hx rfl (pc0 := 38) (pc' := 97) rfl (hb hby d26_38) (by decide) (by decide)) ?_
  show ∃ t o, Steps p.tables e below (T23.setTop (mkF m 97 #[.val (.ref a1), .val (.ref sb), .val .null, .val (.ref vb), .val (.int cn)] [])) t ∧ _
  have F24 := (Exa.wr W23 F21)
  have F25 := (Fld.other W23 (Fld.keep Fcz Kp20 nin0) (Or.inr (slot_ne (a0 := a0) (Or.inr w_45) (Or.inr w_44) (by decide) (t := .byte) (t' := (.array .byte)) (by decide) (by decide))))
  have ne26 : nb_20 ≠ a1 := own_ne (by omega)
  have F27 := (Arv.other G20_0 W23 ne26)
  obtain ⟨fs, hr, hrun, hended, hW, hsame⟩ := X23.leave (v := none) (fun _ => rfl)
  refine ⟨_, _, ?_, hrun, hended, _, _, rfl, ?_, ⟨_, rfl⟩, hW, hsame.mono (by decide) (by decide)⟩
  · exact X23.returnOut hx Bd.returns (hb hby d26_97) hr
  · show Q_rmST2 Z _ _ _ _ _ _ _ _ h0 n0 _ T23.heap _
    rw [e23]
    exact ⟨nb_20, kn_20, rfl, N23, K23, F24, Fw23, F25, F27, (by omega)⟩
theorem ef_rmST1 (m : MethodId) (x0 : Nat) (x1 : Nat) : entryFrame m #[(.ref x0), (.ref x1)] 2 = mkF m 0 #[.val (.ref x0), .val (.ref x1)] [] := by first | (simp [entryFrame, mkF, argsToLocals, Value.category]; done) | rfl
theorem d25_0 : decode jdk_42_method_53_code 0 = .ok (.aload_n 0, 1) := by decide +kernel
theorem d25_1 : decode jdk_42_method_53_code 1 = .ok (.aload_n 1, 1) := by decide +kernel
theorem d25_2 : decode jdk_42_method_53_code 2 = .ok (.aconst_null, 1) := by decide +kernel
theorem d25_3 : decode jdk_42_method_53_code 3 = .ok (.invokespecial 489, 3) := by decide +kernel
theorem pd_h0c2c8006 : parseMethodDescriptor "(Ljava/lang/AbstractStringBuilder;Ljava/lang/Void;)V" = some ⟨[(.object "java/lang/AbstractStringBuilder"), (.object "java/lang/Void")], none⟩ := by decide +kernel
theorem d25_6 : decode jdk_42_method_53_code 6 = .ok (.return_, 1) := by decide +kernel
def Q_rmST1 (Z : State) (a1 : Nat) (sb : Nat) (vb : Nat) (kv : ClassId) (cp : Int32) (us : List Value) (cn : Int32) (zc : Int32) (h0 : Heap) (n0 : Nat) (v : Option Value) (h : Heap) (L : List Loc) : Prop := ∃ (tb : Nat), ∃ (kb : ClassId), v = none ∧ Fr n0 L ∧ Keep h0 h [a1] ∧ Exa Z h a1 "java/lang/String" ∧ Fld Z h a1 "java/lang/String" "value" "[B" (.ref tb) ∧ Fld Z h a1 "java/lang/String" "coder" "B" (.int (0 : Int32)) ∧ Arv Z h tb kb .byte cn us (.int (0 : Int32)) ∧ (h0.size ≤ tb)
set_option maxRecDepth 65536 in
set_option maxHeartbeats 40000000 in
theorem rmST1 (l : Launch) (Z : State) (a0 : Array Value) (hw : ∀ d ∈ tables_1, d.before a0 Z = true) (ws : List Jvm.Cond) (a1 : Nat) (sb : Nat) (vb : Nat) (kv : ClassId) (cp : Int32) (us : List Value) (cn : Int32) (zc : Int32) (h0 : Heap) (n0 : Nat) (Z0 : n0 ≤ h0.size) (P1 : Exa Z h0 a1 "java/lang/String") (P2 : Fld Z h0 a1 "java/lang/String" "value" "[B" .null) (P3 : Fld Z h0 a1 "java/lang/String" "coder" "B" (.int (0 : Int32))) (P4 : Exa Z h0 sb "java/lang/StringBuilder") (P5 : Fld Z h0 sb "java/lang/AbstractStringBuilder" "value" "[B" (.ref vb)) (P6 : Fld Z h0 sb "java/lang/AbstractStringBuilder" "coder" "B" (.int (0 : Int32))) (P7 : Fld Z h0 sb "java/lang/AbstractStringBuilder" "count" "I" (.int cn)) (P8 : Exa Z h0 vb "[B") (P9 : Arv Z h0 vb kv .byte cp us (.int (0 : Int32))) (OLD : Old Z n0 h0) (P10 : Sta Z Z.heap "java/lang/String" "COMPACT_STRINGS" "Z" (.int zc)) (hzc : ¬ (zc = (0 : Int32))) (f2 : own_fit us cn) (hcp : own_cap us cp) (ga : n0 ≤ a1) (ha2 : vb ≠ a1) :
    MetFree l (⟨"java/lang/String", "<init>", "(Ljava/lang/StringBuilder;)V"⟩ : MethodName) (head1 (Jvm.Cond.code (⟨"java/lang/String", "<init>", "(Ljava/lang/StringBuilder;)V"⟩ : MethodName) jdk_42_method_53_code 2 none :: ws) ({ frames := 4, cells := 1, slots := 142, locals := 65 } : Room)) (fun a U => a = #[(.ref a1), (.ref sb)] ∧ Z.Warmed39 U.vm ∧ U.heap = h0) (fun _ _ _ _ _ => True) (fun _ U o U' => ∃ v L, o = .returned v ∧ Q_rmST1 Z a1 sb vb kv cp us cn zc h0 n0 v U'.heap L ∧ FrameEnd U o U' L ({ frames := 4, cells := 1, slots := 142, locals := 65 } : Room).cells ({ frames := 4, cells := 1, slots := 142, locals := 65 } : Room).slots) := by
  refine MetFree.of_bodySF (plainFor_of_name pn_java_lang_String) hisR ?_
  intro p e s m args below meth c s₁ Bd hml0 hP hK
  obtain ⟨rfl, hZ, hh⟩ := hP
  have hx := Bd.exec
  have hby := Bd.bytes
  have hml : c.maxLocals = 2 := hml0
  have hown : s.vm.findClass "java/lang/String" = some m.cls := findClass_of_methodNamed Bd.named
  have hnm := (name_of_methodNamed Bd.named Bd.method).1
  have X0 : Stand p l e ({ frames := 4, cells := 1, slots := 142, locals := 65 } : Room) s m #[(.ref a1), (.ref sb)] below meth c s₁ [] 0 0 := Stand.of_body Bd
  have e0 : s₁.heap = h0 := by rw [← hh, Bd.state]; rfl
  have N0 := Fr.nil n0
  have pre0 : ∀ t, Steps p.tables e below (s₁.setTop (mkF m 0 #[.val (.ref a1), .val (.ref sb)] [])) t → Steps p.tables e below (s₁.setTop (entryFrame m #[(.ref a1), (.ref sb)] 2)) t := fun t k => castTop (ef_rmST1 m a1 sb) k
  have w_165 := hw _ (List.mem_of_getElem? (i := 165) rfl)
  have oz := OLD.1
  have lt_a1 : a1 < h0.size := P1.lt
  have lt_sb : sb < h0.size := P4.lt
  have lt_vb : vb < h0.size := P8.lt
  refine own_go (B := s₁.setTop (mkF m 0 #[.val (.ref a1), .val (.ref sb)] [])) pre0 ?_
  show ∃ t o, Steps p.tables e below (s₁.setTop (mkF m 0 #[.val (.ref a1), .val (.ref sb)] [])) t ∧ _
  refine own_go (fun _ => XS.aloadN X0.here hx rfl (hb hby d25_0) rfl rfl) ?_
  refine own_go (fun _ => XS.aloadN X0.here hx rfl (hb hby d25_1) rfl rfl) ?_
  refine own_go (fun _ => XS.aconstNull X0.here hx rfl (hb hby d25_2)) ?_
  show ∃ t o, Steps p.tables e below (s₁.setTop (mkF m 3 #[.val (.ref a1), .val (.ref sb)] [.null, (.ref sb), (.ref a1)])) t ∧ _
  obtain ⟨_, _, ⟨T11, L11, k11, n11⟩, -, X11, ⟨Lc11, hQ11, l11, y11, z11⟩, st11⟩ := X0.specialBack hx (y := (⟨"java/lang/String", "<init>", "(Ljava/lang/AbstractStringBuilder;Ljava/lang/Void;)V"⟩ : MethodName)) rfl hown (mvT hZ (hw _ (List.mem_of_getElem? (i := 163) rfl))) (mvT hZ (hw _ (List.mem_of_getElem? (i := 164) rfl))) (mvT hZ w_165) (by decide) (backOf (W := 0) (rmST2 l Z a0 hw [] a1 sb vb kv cp us cn zc h0 n0 Z0 P1 P2 P3 P4 P5 P6 P7 P8 P9 OLD P10 hzc f2 hcp ga ha2) hZ w_165 (hw _ (List.mem_of_getElem? (i := 36) rfl)) (by decide) (by decide)) (g := (mkF m 3 #[.val (.ref a1), .val (.ref sb)] [.null, (.ref sb), (.ref a1)])) rfl (by rw [hml]; rfl) (Steps.refl _) (a := a1) (argsL := [(.ref sb), .null]) (rest := []) (lenOf pd_h0c2c8006 rfl) rfl (by show 2 * 0 + _ ≤ _; exact Nat.le_of_eq rfl) (hb hby d25_3) (fun _ _ => ⟨rfl, e0, (by decide : 0 + 1 ≤ _), (by decide : 0 + 142 ≤ _)⟩)
  dsimp only [Pt.U, Pt.locs, Pt.cells, Pt.slots] at X11 l11 y11 z11 st11 hQ11
  rw [l11, y11, z11] at X11
  obtain ⟨tb_11, kb_11, rfl, Nq11, Kp11, G11_0, G11_1, G11_2, G11_3, H11_0⟩ := hQ11
  have N11 := Fr.app N0 Nq11
  refine own_goT st11 ?_
  have le_11 : h0.size ≤ T11.heap.size := Kp11.1
  have K11 : Keep h0 T11.heap [a1] := Keep.trans (Keep.refl h0 [a1]) Kp11 (allS (Or.inl (List.mem_of_getElem? (i := 0) rfl)) all0)
  have lt_tb_11 : tb_11 < T11.heap.size := (G11_3).lt
  show ∃ t o, Steps p.tables e below (T11.setTop (mkF m 6 #[.val (.ref a1), .val (.ref sb)] [])) t ∧ _
  obtain ⟨fs, hr, hrun, hended, hW, hsame⟩ := X11.leave (v := none) (fun _ => rfl)
  refine ⟨_, _, ?_, hrun, hended, _, _, rfl, ?_, ⟨_, rfl⟩, hW, hsame.mono (by decide) (by decide)⟩
  · exact X11.returnOut hx Bd.returns (hb hby d25_6) hr
  · show Q_rmST1 Z _ _ _ _ _ _ _ _ h0 n0 _ T11.heap _
    exact ⟨tb_11, kb_11, rfl, N11, K11, G11_0, G11_1, G11_2, G11_3, H11_0⟩
theorem ef_rmTs (m : MethodId) (x0 : Nat) : entryFrame m #[(.ref x0)] 1 = mkF m 0 #[.val (.ref x0)] [] := by first | (simp [entryFrame, mkF, argsToLocals, Value.category]; done) | rfl
theorem d24_0 : decode jdk_67_method_42_code 0 = .ok (.new 18, 3) := by decide +kernel
theorem d24_3 : decode jdk_67_method_42_code 3 = .ok (.dup, 1) := by decide +kernel
theorem d24_4 : decode jdk_67_method_42_code 4 = .ok (.aload_n 0, 1) := by decide +kernel
theorem d24_5 : decode jdk_67_method_42_code 5 = .ok (.invokespecial 137, 3) := by decide +kernel
theorem pd__28Ljava_2flang_2fStringBuilder_3b_29V : parseMethodDescriptor "(Ljava/lang/StringBuilder;)V" = some ⟨[(.object "java/lang/StringBuilder")], none⟩ := by decide +kernel
theorem d24_8 : decode jdk_67_method_42_code 8 = .ok (.areturn, 1) := by decide +kernel
def Q_rmTs (Z : State) (sb : Nat) (vb : Nat) (kv : ClassId) (cp : Int32) (us : List Value) (cn : Int32) (zc : Int32) (h0 : Heap) (n0 : Nat) (v : Option Value) (h : Heap) (L : List Loc) : Prop := ∃ (b : Nat), ∃ (tb : Nat), ∃ (kb : ClassId), v = some (.ref b) ∧ Fr n0 L ∧ Keep h0 h [] ∧ Exa Z h b "java/lang/String" ∧ Fld Z h b "java/lang/String" "value" "[B" (.ref tb) ∧ Fld Z h b "java/lang/String" "coder" "B" (.int (0 : Int32)) ∧ Arv Z h tb kb .byte cn us (.int (0 : Int32)) ∧ (h0.size ≤ b) ∧ (h0.size ≤ tb)
set_option maxRecDepth 65536 in
set_option maxHeartbeats 40000000 in
theorem rmTs (l : Launch) (Z : State) (a0 : Array Value) (hw : ∀ d ∈ tables_1, d.before a0 Z = true) (ws : List Jvm.Cond) (sb : Nat) (vb : Nat) (kv : ClassId) (cp : Int32) (us : List Value) (cn : Int32) (zc : Int32) (h0 : Heap) (n0 : Nat) (Z0 : n0 ≤ h0.size) (P1 : Exa Z h0 sb "java/lang/StringBuilder") (P2 : Fld Z h0 sb "java/lang/AbstractStringBuilder" "value" "[B" (.ref vb)) (P3 : Fld Z h0 sb "java/lang/AbstractStringBuilder" "coder" "B" (.int (0 : Int32))) (P4 : Fld Z h0 sb "java/lang/AbstractStringBuilder" "count" "I" (.int cn)) (P5 : Exa Z h0 vb "[B") (P6 : Arv Z h0 vb kv .byte cp us (.int (0 : Int32))) (OLD : Old Z n0 h0) (P7 : Sta Z Z.heap "java/lang/String" "COMPACT_STRINGS" "Z" (.int zc)) (hzc : ¬ (zc = (0 : Int32))) (f2 : own_fit us cn) (hcp : own_cap us cp) :
    MetFree l (⟨"java/lang/StringBuilder", "toString", "()Ljava/lang/String;"⟩ : MethodName) (head1 (Jvm.Cond.code (⟨"java/lang/StringBuilder", "toString", "()Ljava/lang/String;"⟩ : MethodName) jdk_67_method_42_code 1 (some (.object "java/lang/String")) :: ws) ({ frames := 5, cells := 2, slots := 146, locals := 79 } : Room)) (fun a U => a = #[(.ref sb)] ∧ Z.Warmed39 U.vm ∧ U.heap = h0) (fun _ _ _ _ _ => True) (fun _ U o U' => ∃ v L, o = .returned v ∧ Q_rmTs Z sb vb kv cp us cn zc h0 n0 v U'.heap L ∧ FrameEnd U o U' L ({ frames := 5, cells := 2, slots := 146, locals := 79 } : Room).cells ({ frames := 5, cells := 2, slots := 146, locals := 79 } : Room).slots) := by
  refine MetFree.of_bodySF (plainFor_of_name pn_java_lang_StringBuilder) hisR ?_
  intro p e s m args below meth c s₁ Bd hml0 hP hK
  obtain ⟨rfl, hZ, hh⟩ := hP
  have hx := Bd.exec
  have hby := Bd.bytes
  have hml : c.maxLocals = 1 := hml0
  have hown : s.vm.findClass "java/lang/StringBuilder" = some m.cls := findClass_of_methodNamed Bd.named
  have hnm := (name_of_methodNamed Bd.named Bd.method).1
  have X0 : Stand p l e ({ frames := 5, cells := 2, slots := 146, locals := 79 } : Room) s m #[(.ref sb)] below meth c s₁ [] 0 0 := Stand.of_body Bd
  have e0 : s₁.heap = h0 := by rw [← hh, Bd.state]; rfl
  have N0 := Fr.nil n0
  have pre0 : ∀ t, Steps p.tables e below (s₁.setTop (mkF m 0 #[.val (.ref sb)] [])) t → Steps p.tables e below (s₁.setTop (entryFrame m #[(.ref sb)] 1)) t := fun t k => castTop (ef_rmTs m sb) k
  have w_162 := hw _ (List.mem_of_getElem? (i := 162) rfl)
  have w_36 := hw _ (List.mem_of_getElem? (i := 36) rfl)
  have oz := OLD.1
  have lt_sb : sb < h0.size := P1.lt
  have lt_vb : vb < h0.size := P5.lt
  refine own_go (B := s₁.setTop (mkF m 0 #[.val (.ref sb)] [])) pre0 ?_
  show ∃ t o, Steps p.tables e below (s₁.setTop (mkF m 0 #[.val (.ref sb)] [])) t ∧ _
  obtain ⟨T8, h8, X8, e8, E8, A8, D8, -, st8⟩ := newO X0 hx hZ hown (hw _ (List.mem_of_getElem? (i := 158) rfl)) (hw _ (List.mem_of_getElem? (i := 43) rfl)) w_36 e0 (g := (mkF m 0 #[.val (.ref sb)] [])) rfl (hb hby d24_0) (by decide) (by decide)
  obtain ⟨b8, g8⟩ : ∃ z, z = h0.size := ⟨_, rfl⟩
  rw [← g8] at A8 D8 st8
  refine own_go st8 ?_
  have le_8 : h0.size ≤ h8.size := E8.1
  have lt_b8 : b8 < h8.size := A8.lt
  have F_value_b8 : Fld Z h8 b8 "java/lang/String" "value" "[B" .null := D8 (Or.inr (hw _ (List.mem_of_getElem? (i := 44) rfl))) (ty := (.array .byte)) (by decide)
  have F_coder_b8 : Fld Z h8 b8 "java/lang/String" "coder" "B" (.int (0 : Int32)) := D8 (Or.inr (hw _ (List.mem_of_getElem? (i := 45) rfl))) (ty := .byte) (by decide)
  have K8 : Keep h0 h8 [] := Keep.ext (Keep.refl h0 []) E8
  refine own_go (fun _ => XS.dup X8.here hx rfl (hb hby d24_3) rfl rfl) ?_
  refine own_go (fun _ => XS.aloadN X8.here hx rfl (hb hby d24_4) rfl rfl) ?_
  show ∃ t o, Steps p.tables e below (T8.setTop (mkF m 5 #[.val (.ref sb)] [(.ref sb), (.ref b8), (.ref b8)])) t ∧ _
  have F9 := (Exa.ext E8 P1)
  have F10 := (Fld.ext E8 P2)
  have F11 := (Fld.ext E8 P3)
  have F12 := (Fld.ext E8 P4)
  have F13 := (Exa.ext E8 P5)
  have F14 := (P6.ext E8)
  have F15 := (OLD.ext E8)
  have ge16 : n0 ≤ b8 := by omega
  have ne17 : vb ≠ b8 := own_ne (by omega)
  have zl18 : n0 ≤ h8.size := by omega
  obtain ⟨_, _, ⟨T19, L19, k19, n19⟩, -, X19, ⟨Lc19, hQ19, l19, y19, z19⟩, st19⟩ := X8.specialBack hx (y := (⟨"java/lang/String", "<init>", "(Ljava/lang/StringBuilder;)V"⟩ : MethodName)) rfl hown (mvT hZ (hw _ (List.mem_of_getElem? (i := 159) rfl))) (mvT hZ (hw _ (List.mem_of_getElem? (i := 160) rfl))) (mvT hZ w_162) (by decide) (backOf (W := 1) (rmST1 l Z a0 hw [] b8 sb vb kv cp us cn zc h8 n0 zl18 A8 F_value_b8 F_coder_b8 F9 F10 F11 F12 F13 F14 F15 P7 hzc f2 hcp ge16 ne17) hZ w_162 w_36 (by decide) (by decide)) (g := (mkF m 5 #[.val (.ref sb)] [(.ref sb), (.ref b8), (.ref b8)])) rfl (by rw [hml]; rfl) (Steps.refl _) (a := b8) (argsL := [(.ref sb)]) (rest := [(.ref b8)]) (lenOf pd__28Ljava_2flang_2fStringBuilder_3b_29V rfl) rfl (by show 2 * 0 + _ ≤ _; exact Nat.le_of_eq rfl) (hb hby d24_5) (fun _ _ => ⟨rfl, e8, (by decide : 1 + 1 ≤ _), (by decide : 4 + 142 ≤ _)⟩)
  dsimp only [Pt.U, Pt.locs, Pt.cells, Pt.slots] at X19 l19 y19 z19 st19 hQ19
  rw [l19, y19, z19] at X19
  obtain ⟨tb_19, kb_19, rfl, Nq19, Kp19, G19_0, G19_1, G19_2, G19_3, H19_0⟩ := hQ19
  have N19 := Fr.app N0 Nq19
  refine own_goT st19 ?_
  have le_19 : h8.size ≤ T19.heap.size := Kp19.1
  have sz20 : h0.size ≤ b8 := by omega
  have K19 : Keep h0 T19.heap [] := Keep.trans K8 Kp19 (allS (Or.inr sz20) all0)
  have lt_tb_19 : tb_19 < T19.heap.size := (G19_3).lt
  show ∃ t o, Steps p.tables e below (T19.setTop (mkF m 8 #[.val (.ref sb)] [(.ref b8)])) t ∧ _
  obtain ⟨fs, hr, hrun, hended, hW, hsame⟩ := X19.leave (v := some (.ref b8)) (fun h => by rw [Bd.returns] at h; cases h)
  refine ⟨_, _, ?_, hrun, hended, _, _, rfl, ?_, ⟨_, rfl⟩, hW, hsame.mono (by decide) (by decide)⟩
  · jvm_step X19.here [X19.here.top, hx, (hb hby d24_8), X19.method', Bd.returns, Value.isRef, FieldType.isReference]
    first | (intro acts; rw [hr _ acts rfl rfl rfl]) | rw [hr _ _ rfl rfl rfl]
    exact Steps.refl _
  · show Q_rmTs Z _ _ _ _ _ _ _ h0 n0 _ T19.heap _
    exact ⟨b8, tb_19, kb_19, rfl, N19, K19, G19_0, G19_1, G19_2, G19_3, (by omega), (by omega)⟩
theorem ef_rmSS (m : MethodId) (x0 : Int64) : entryFrame m #[(.long x0)] 6 = mkF m 0 #[.val (.long x0), .second, .unset, .unset, .unset, .unset] [] := by first | (simp [entryFrame, mkF, argsToLocals, Value.category]; done) | rfl
theorem d21_20 : decode jdk_35_method_15_code 20 = .ok (.iload 5, 2) := by decide +kernel
theorem d21_22 : decode jdk_35_method_15_code 22 = .ok (.bipush 19, 2) := by decide +kernel
theorem d21_24 : decode jdk_35_method_15_code 24 = .ok (.if_icmp .ge 26, 3) := by decide +kernel
theorem d21_27 : decode jdk_35_method_15_code 27 = .ok (.lload_n 0, 1) := by decide +kernel
theorem d21_28 : decode jdk_35_method_15_code 28 = .ok (.lload_n 3, 1) := by decide +kernel
theorem d21_29 : decode jdk_35_method_15_code 29 = .ok (.lcmp, 1) := by decide +kernel
theorem d21_30 : decode jdk_35_method_15_code 30 = .ok (.ifCond .le 8, 3) := by decide +kernel
theorem d21_33 : decode jdk_35_method_15_code 33 = .ok (.iload 5, 2) := by decide +kernel
theorem d21_35 : decode jdk_35_method_15_code 35 = .ok (.iload_n 2, 1) := by decide +kernel
theorem d21_36 : decode jdk_35_method_15_code 36 = .ok (.iadd, 1) := by decide +kernel
theorem d21_37 : decode jdk_35_method_15_code 37 = .ok (.ireturn, 1) := by decide +kernel
theorem d21_38 : decode jdk_35_method_15_code 38 = .ok (.ldc2_w 53, 3) := by decide +kernel
theorem d21_41 : decode jdk_35_method_15_code 41 = .ok (.lload_n 3, 1) := by decide +kernel
theorem d21_42 : decode jdk_35_method_15_code 42 = .ok (.lmul, 1) := by decide +kernel
theorem d21_43 : decode jdk_35_method_15_code 43 = .ok (.lstore_n 3, 1) := by decide +kernel
theorem d21_44 : decode jdk_35_method_15_code 44 = .ok (.iinc 5 1, 3) := by decide +kernel
theorem d21_47 : decode jdk_35_method_15_code 47 = .ok (.goto (-27), 3) := by decide +kernel
theorem d21_50 : decode jdk_35_method_15_code 50 = .ok (.bipush 19, 2) := by decide +kernel
theorem d21_52 : decode jdk_35_method_15_code 52 = .ok (.iload_n 2, 1) := by decide +kernel
theorem d21_53 : decode jdk_35_method_15_code 53 = .ok (.iadd, 1) := by decide +kernel
theorem d21_54 : decode jdk_35_method_15_code 54 = .ok (.ireturn, 1) := by decide +kernel
theorem d21_0 : decode jdk_35_method_15_code 0 = .ok (.iconst 1, 1) := by decide +kernel
theorem d21_1 : decode jdk_35_method_15_code 1 = .ok (.istore_n 2, 1) := by decide +kernel
theorem d21_2 : decode jdk_35_method_15_code 2 = .ok (.lload_n 0, 1) := by decide +kernel
theorem d21_3 : decode jdk_35_method_15_code 3 = .ok (.lconst 0, 1) := by decide +kernel
theorem d21_4 : decode jdk_35_method_15_code 4 = .ok (.lcmp, 1) := by decide +kernel
theorem d21_5 : decode jdk_35_method_15_code 5 = .ok (.ifCond .lt 8, 3) := by decide +kernel
theorem d21_13 : decode jdk_35_method_15_code 13 = .ok (.ldc2_w 140, 3) := by decide +kernel
theorem d21_16 : decode jdk_35_method_15_code 16 = .ok (.lstore_n 3, 1) := by decide +kernel
theorem d21_17 : decode jdk_35_method_15_code 17 = .ok (.iconst 1, 1) := by decide +kernel
theorem d21_18 : decode jdk_35_method_15_code 18 = .ok (.istore 5, 2) := by decide +kernel
theorem d21_8 : decode jdk_35_method_15_code 8 = .ok (.iconst 0, 1) := by decide +kernel
theorem d21_9 : decode jdk_35_method_15_code 9 = .ok (.istore_n 2, 1) := by decide +kernel
theorem d21_10 : decode jdk_35_method_15_code 10 = .ok (.lload_n 0, 1) := by decide +kernel
theorem d21_11 : decode jdk_35_method_15_code 11 = .ok (.lneg, 1) := by decide +kernel
theorem d21_12 : decode jdk_35_method_15_code 12 = .ok (.lstore_n 0, 1) := by decide +kernel
theorem pn_java_lang_Long : plainName "java/lang/Long" = true := by first | (simp [plainName, overriddenIn]; done) | decide +kernel
def Q_rmSS (Z : State) (xl : Int64) (h0 : Heap) (n0 : Nat) (v : Option Value) (h : Heap) (L : List Loc) : Prop := ∃ (r1 : Int32), v = some (.int r1) ∧ Fr n0 L ∧ h = h0 ∧ (own_fit (own_dec xl) r1)
set_option maxRecDepth 65536 in
set_option maxHeartbeats 40000000 in
theorem rmSS (l : Launch) (Z : State) (a0 : Array Value) (hw : ∀ d ∈ tables_1, d.before a0 Z = true) (ws : List Jvm.Cond) (xl : Int64) (h0 : Heap) (n0 : Nat) (Z0 : n0 ≤ h0.size) (OLD : Old Z n0 h0) :
    MetFree l (⟨"java/lang/Long", "stringSize", "(J)I"⟩ : MethodName) (head1 (Jvm.Cond.code (⟨"java/lang/Long", "stringSize", "(J)I"⟩ : MethodName) jdk_35_method_15_code 6 (some .int) :: ws) ({ frames := 0, cells := 0, slots := 0, locals := 0 } : Room)) (fun a U => a = #[(.long xl)] ∧ Z.Warmed39 U.vm ∧ U.heap = h0) (fun _ _ _ _ _ => True) (fun _ U o U' => ∃ v L, o = .returned v ∧ Q_rmSS Z xl h0 n0 v U'.heap L ∧ FrameEnd U o U' L ({ frames := 0, cells := 0, slots := 0, locals := 0 } : Room).cells ({ frames := 0, cells := 0, slots := 0, locals := 0 } : Room).slots) := by
  refine MetFree.of_bodySF (plainFor_of_name pn_java_lang_Long) hisR ?_
  intro p e s m args below meth c s₁ Bd hml0 hP hK
  obtain ⟨rfl, hZ, hh⟩ := hP
  have hx := Bd.exec
  have hby := Bd.bytes
  have hml : c.maxLocals = 6 := hml0
  have hown : s.vm.findClass "java/lang/Long" = some m.cls := findClass_of_methodNamed Bd.named
  have hnm := (name_of_methodNamed Bd.named Bd.method).1
  have X0 : Stand p l e ({ frames := 0, cells := 0, slots := 0, locals := 0 } : Room) s m #[(.long xl)] below meth c s₁ [] 0 0 := Stand.of_body Bd
  have e0 : s₁.heap = h0 := by rw [← hh, Bd.state]; rfl
  have N0 := Fr.nil n0
  have pre0 : ∀ t, Steps p.tables e below (s₁.setTop (mkF m 0 #[.val (.long xl), .second, .unset, .unset, .unset, .unset] [])) t → Steps p.tables e below (s₁.setTop (entryFrame m #[(.long xl)] 6)) t := fun t k => castTop (ef_rmSS m xl) k
  have w_134 := hw _ (List.mem_of_getElem? (i := 134) rfl)
  have oz := OLD.1
  refine own_go (B := s₁.setTop (mkF m 0 #[.val (.long xl), .second, .unset, .unset, .unset, .unset] [])) pre0 ?_
  refine own_nameP (fun P eP => ?_)
  have loop20 : ∀ (r : Nat) (xx : Int64) (dd : Int32) (ii : Int32) (pp : Int64) (hI : own_ssi xl xx dd ii pp) (hr : (19 - ii.toInt.toNat) = r), ∃ t o, Steps p.tables e below (s₁.setTop (mkF m 20 #[.val (.long xx), .second, .val (.int dd), .val (.long pp), .second, .val (.int ii)] [])) t ∧ P t o := by
    intro r
    induction r using Nat.strongRecOn with
    | _ r ih20 =>
      intro xx dd ii pp hI hr
      show ∃ t o, Steps p.tables e below (s₁.setTop (mkF m 20 #[.val (.long xx), .second, .val (.int dd), .val (.long pp), .second, .val (.int ii)] [])) t ∧ _
      refine own_go (fun _ => XS.iload X0.here hx rfl (hb hby d21_20) rfl) ?_
      refine own_go (fun _ => XS.bipush X0.here hx rfl (hb hby d21_22)) ?_
      show ∃ t o, Steps p.tables e below (s₁.setTop (mkF m 24 #[.val (.long xx), .second, .val (.int dd), .val (.long pp), .second, .val (.int ii)] [(.int (19 : Int32)), (.int ii)])) t ∧ _
      by_cases hc1 : ii < (19 : Int32)
      · refine own_go (fun _ => XS.icmpNo X0.here hx rfl (hb hby d21_24) rfl (tlt hc1).2.1) ?_
        refine own_go (fun _ => XS.lloadN X0.here hx rfl (hb hby d21_27) rfl) ?_
        refine own_go (fun _ => XS.lloadN X0.here hx rfl (hb hby d21_28) rfl) ?_
        refine own_go (fun _ => XS.lcmp X0.here hx rfl (hb hby d21_29) rfl) ?_
        show ∃ t o, Steps p.tables e below (s₁.setTop (mkF m 30 #[.val (.long xx), .second, .val (.int dd), .val (.long pp), .second, .val (.int ii)] [(.int (lcmpW xx pp))])) t ∧ _
        by_cases hc2 : pp < xx
        · refine own_go (fun _ => XS.ifNo X0.here hx rfl (hb hby d21_30) rfl ((if0 _ _).trans (tlt ((lw_gt _ _).mpr hc2)).2.2.2)) ?_
          refine own_go (fun _ => XS.iload X0.here hx rfl (hb hby d21_33) rfl) ?_
          refine own_go (fun _ => XS.iloadN X0.here hx rfl (hb hby d21_35) rfl) ?_
          refine own_go (fun _ => XS.iadd X0.here hx rfl (hb hby d21_36) rfl) ?_
          show ∃ t o, Steps p.tables e below (s₁.setTop (mkF m 37 #[.val (.long xx), .second, .val (.int dd), .val (.long pp), .second, .val (.int ii)] [(.int (ii + dd))])) t ∧ _
          subst eP
          obtain ⟨fs, hr, hrun, hended, hW, hsame⟩ := X0.leave (v := some (.int (ii + dd))) (fun h => by rw [Bd.returns] at h; cases h)
          refine ⟨_, _, ?_, hrun, hended, _, _, rfl, ?_, ⟨_, rfl⟩, hW, hsame.mono (by decide) (by decide)⟩
          · exact retI X0 hx Bd.returns (hb hby d21_37) hr
          · show Q_rmSS Z _ h0 n0 _ s₁.heap _
            rw [e0]
            exact ⟨(ii + dd), rfl, N0, rfl, (own_ssR hI hc1 hc2)⟩
        · refine own_go (fun _ => XS.ifYes X0.here hx rfl (pc0 := 30) (pc' := 38) rfl (hb hby d21_30) rfl ((if0 _ _).trans (flt (mt (lw_gt _ _).mp hc2)).2.2.2) (by decide) (by decide)) ?_
          refine own_go (fun _ => X0.ldc2Long hx hown (mvT hZ (hw _ (List.mem_of_getElem? (i := 148) rfl))) (g := (mkF m 38 #[.val (.long xx), .second, .val (.int dd), .val (.long pp), .second, .val (.int ii)] [])) rfl (hb hby d21_38) _) ?_
          refine own_go (fun _ => XS.lloadN X0.here hx rfl (hb hby d21_41) rfl) ?_
          refine own_go (fun _ => XS.lmul X0.here hx rfl (hb hby d21_42) rfl) ?_
          refine own_go (fun _ => XS.lstoreN X0.here hx rfl (hb hby d21_43) rfl (l' := #[.val (.long xx), .second, .val (.int dd), .val (.long ((10 : Int64) * pp)), .second, .val (.int ii)]) rfl) ?_
          refine own_go (fun _ => XS.iinc X0.here hx rfl (hb hby d21_44) rfl (l' := #[.val (.long xx), .second, .val (.int dd), .val (.long ((10 : Int64) * pp)), .second, .val (.int (ii + (1 : Int32)))]) rfl) ?_
          refine own_go (fun _ => XS.goto X0.here hx rfl (pc0 := 47) (pc' := 20) rfl (hb hby d21_47) (by decide) (by decide)) ?_
          show ∃ t o, Steps p.tables e below (s₁.setTop (mkF m 20 #[.val (.long xx), .second, .val (.int dd), .val (.long ((10 : Int64) * pp)), .second, .val (.int (ii + (1 : Int32)))] [])) t ∧ _
          exact ih20 _ (by have q := own_ssm hc1 hI.2.2.1; omega) xx dd (ii + (1 : Int32)) ((10 : Int64) * pp) (own_ssS hI hc1 hc2) rfl
      · refine own_go (fun _ => XS.icmpYes X0.here hx rfl (pc0 := 24) (pc' := 50) rfl (hb hby d21_24) rfl (flt hc1).2.1 (by decide) (by decide)) ?_
        refine own_go (fun _ => XS.bipush X0.here hx rfl (hb hby d21_50)) ?_
        refine own_go (fun _ => XS.iloadN X0.here hx rfl (hb hby d21_52) rfl) ?_
        refine own_go (fun _ => XS.iadd X0.here hx rfl (hb hby d21_53) rfl) ?_
        show ∃ t o, Steps p.tables e below (s₁.setTop (mkF m 54 #[.val (.long xx), .second, .val (.int dd), .val (.long pp), .second, .val (.int ii)] [(.int ((19 : Int32) + dd))])) t ∧ _
        subst eP
        obtain ⟨fs, hr, hrun, hended, hW, hsame⟩ := X0.leave (v := some (.int ((19 : Int32) + dd))) (fun h => by rw [Bd.returns] at h; cases h)
        refine ⟨_, _, ?_, hrun, hended, _, _, rfl, ?_, ⟨_, rfl⟩, hW, hsame.mono (by decide) (by decide)⟩
        · exact retI X0 hx Bd.returns (hb hby d21_54) hr
        · show Q_rmSS Z _ h0 n0 _ s₁.heap _
          rw [e0]
          exact ⟨((19 : Int32) + dd), rfl, N0, rfl, (own_ssE hI hc1)⟩
  show ∃ t o, Steps p.tables e below (s₁.setTop (mkF m 0 #[.val (.long xl), .second, .unset, .unset, .unset, .unset] [])) t ∧ _
  refine own_go (fun _ => XS.iconst X0.here hx rfl (hb hby d21_0)) ?_
  refine own_go (fun _ => XS.istoreN X0.here hx rfl (hb hby d21_1) rfl (l' := #[.val (.long xl), .second, .val (.int (1 : Int32)), .unset, .unset, .unset]) rfl) ?_
  refine own_go (fun _ => XS.lloadN X0.here hx rfl (hb hby d21_2) rfl) ?_
  refine own_go (fun _ => XS.lconst X0.here hx rfl (hb hby d21_3)) ?_
  refine own_go (fun _ => XS.lcmp X0.here hx rfl (hb hby d21_4) rfl) ?_
  show ∃ t o, Steps p.tables e below (s₁.setTop (mkF m 5 #[.val (.long xl), .second, .val (.int (1 : Int32)), .unset, .unset, .unset] [(.int (lcmpW xl (0 : Int64)))])) t ∧ _
  by_cases hc3 : xl < (0 : Int64)
  · refine own_go (fun _ => XS.ifYes X0.here hx rfl (pc0 := 5) (pc' := 13) rfl (hb hby d21_5) rfl ((if0 _ _).trans (tlt ((lw_lt _ _).mpr hc3)).1) (by decide) (by decide)) ?_
    refine own_go (fun _ => X0.ldc2Long hx hown (mvT hZ w_134) (g := (mkF m 13 #[.val (.long xl), .second, .val (.int (1 : Int32)), .unset, .unset, .unset] [])) rfl (hb hby d21_13) _) ?_
    refine own_go (fun _ => XS.lstoreN X0.here hx rfl (hb hby d21_16) rfl (l' := #[.val (.long xl), .second, .val (.int (1 : Int32)), .val (.long (-10 : Int64)), .second, .unset]) rfl) ?_
    refine own_go (fun _ => XS.iconst X0.here hx rfl (hb hby d21_17)) ?_
    refine own_go (fun _ => XS.istore X0.here hx rfl (hb hby d21_18) rfl (l' := #[.val (.long xl), .second, .val (.int (1 : Int32)), .val (.long (-10 : Int64)), .second, .val (.int (1 : Int32))]) rfl) ?_
    show ∃ t o, Steps p.tables e below (s₁.setTop (mkF m 20 #[.val (.long xl), .second, .val (.int (1 : Int32)), .val (.long (-10 : Int64)), .second, .val (.int (1 : Int32))] [])) t ∧ _
    exact loop20 _ xl (1 : Int32) (1 : Int32) (-10 : Int64) (own_ss0 hc3) rfl
  · refine own_go (fun _ => XS.ifNo X0.here hx rfl (hb hby d21_5) rfl ((if0 _ _).trans (flt (mt (lw_lt _ _).mp hc3)).1)) ?_
    refine own_go (fun _ => XS.iconst X0.here hx rfl (hb hby d21_8)) ?_
    refine own_go (fun _ => XS.istoreN X0.here hx rfl (hb hby d21_9) rfl (l' := #[.val (.long xl), .second, .val (.int (0 : Int32)), .unset, .unset, .unset]) rfl) ?_
    refine own_go (fun _ => XS.lloadN X0.here hx rfl (hb hby d21_10) rfl) ?_
    refine own_go (fun _ => XS.lneg X0.here hx rfl (hb hby d21_11) rfl) ?_
    refine own_go (fun _ => XS.lstoreN X0.here hx rfl (hb hby d21_12) rfl (l' := #[.val (.long (-xl)), .second, .val (.int (0 : Int32)), .unset, .unset, .unset]) rfl) ?_
    refine own_go (fun _ => X0.ldc2Long hx hown (mvT hZ w_134) (g := (mkF m 13 #[.val (.long (-xl)), .second, .val (.int (0 : Int32)), .unset, .unset, .unset] [])) rfl (hb hby d21_13) _) ?_
    refine own_go (fun _ => XS.lstoreN X0.here hx rfl (hb hby d21_16) rfl (l' := #[.val (.long (-xl)), .second, .val (.int (0 : Int32)), .val (.long (-10 : Int64)), .second, .unset]) rfl) ?_
    refine own_go (fun _ => XS.iconst X0.here hx rfl (hb hby d21_17)) ?_
    refine own_go (fun _ => XS.istore X0.here hx rfl (hb hby d21_18) rfl (l' := #[.val (.long (-xl)), .second, .val (.int (0 : Int32)), .val (.long (-10 : Int64)), .second, .val (.int (1 : Int32))]) rfl) ?_
    show ∃ t o, Steps p.tables e below (s₁.setTop (mkF m 20 #[.val (.long (-xl)), .second, .val (.int (0 : Int32)), .val (.long (-10 : Int64)), .second, .val (.int (1 : Int32))] [])) t ∧ _
    exact loop20 _ (-xl) (0 : Int32) (1 : Int32) (-10 : Int64) (own_ss1 hc3) rfl
theorem ef_rmGc (m : MethodId) (x0 : Int64) (x1 : Int32) (x2 : Nat) : entryFrame m #[(.long x0), (.int x1), (.ref x2)] 11 = mkF m 0 #[.val (.long x0), .second, .val (.int x1), .val (.ref x2), .unset, .unset, .unset, .unset, .unset, .unset, .unset] [] := by first | (simp [entryFrame, mkF, argsToLocals, Value.category]; done) | rfl
theorem d23_86 : decode jdk_35_method_14_code 86 = .ok (.iload 10, 2) := by decide +kernel
theorem d23_88 : decode jdk_35_method_14_code 88 = .ok (.bipush (-100), 2) := by decide +kernel
theorem d23_90 : decode jdk_35_method_14_code 90 = .ok (.if_icmp .gt 53, 3) := by decide +kernel
theorem d23_143 : decode jdk_35_method_14_code 143 = .ok (.aload_n 3, 1) := by decide +kernel
theorem d23_144 : decode jdk_35_method_14_code 144 = .ok (.iinc 7 (-1), 3) := by decide +kernel
theorem d23_147 : decode jdk_35_method_14_code 147 = .ok (.iload 7, 2) := by decide +kernel
theorem d23_149 : decode jdk_35_method_14_code 149 = .ok (.getstatic 133, 3) := by decide +kernel
theorem d23_152 : decode jdk_35_method_14_code 152 = .ok (.iload 10, 2) := by decide +kernel
theorem d23_154 : decode jdk_35_method_14_code 154 = .ok (.ineg, 1) := by decide +kernel
theorem d23_155 : decode jdk_35_method_14_code 155 = .ok (.baload, 1) := by decide +kernel
theorem d23_156 : decode jdk_35_method_14_code 156 = .ok (.bastore, 1) := by decide +kernel
theorem d23_157 : decode jdk_35_method_14_code 157 = .ok (.iload 10, 2) := by decide +kernel
theorem d23_159 : decode jdk_35_method_14_code 159 = .ok (.bipush (-9), 2) := by decide +kernel
theorem d23_161 : decode jdk_35_method_14_code 161 = .ok (.if_icmp .ge 17, 3) := by decide +kernel
theorem d23_164 : decode jdk_35_method_14_code 164 = .ok (.aload_n 3, 1) := by decide +kernel
theorem d23_165 : decode jdk_35_method_14_code 165 = .ok (.iinc 7 (-1), 3) := by decide +kernel
theorem d23_168 : decode jdk_35_method_14_code 168 = .ok (.iload 7, 2) := by decide +kernel
theorem d23_170 : decode jdk_35_method_14_code 170 = .ok (.getstatic 137, 3) := by decide +kernel
theorem d23_173 : decode jdk_35_method_14_code 173 = .ok (.iload 10, 2) := by decide +kernel
theorem d23_175 : decode jdk_35_method_14_code 175 = .ok (.ineg, 1) := by decide +kernel
theorem d23_176 : decode jdk_35_method_14_code 176 = .ok (.baload, 1) := by decide +kernel
theorem d23_177 : decode jdk_35_method_14_code 177 = .ok (.bastore, 1) := by decide +kernel
theorem d23_178 : decode jdk_35_method_14_code 178 = .ok (.iload 8, 2) := by decide +kernel
theorem d23_180 : decode jdk_35_method_14_code 180 = .ok (.ifCond .eq 12, 3) := by decide +kernel
theorem d23_192 : decode jdk_35_method_14_code 192 = .ok (.iload 7, 2) := by decide +kernel
theorem d23_194 : decode jdk_35_method_14_code 194 = .ok (.ireturn, 1) := by decide +kernel
theorem d23_183 : decode jdk_35_method_14_code 183 = .ok (.aload_n 3, 1) := by decide +kernel
theorem d23_184 : decode jdk_35_method_14_code 184 = .ok (.iinc 7 (-1), 3) := by decide +kernel
theorem d23_187 : decode jdk_35_method_14_code 187 = .ok (.iload 7, 2) := by decide +kernel
theorem d23_189 : decode jdk_35_method_14_code 189 = .ok (.bipush 45, 2) := by decide +kernel
theorem d23_191 : decode jdk_35_method_14_code 191 = .ok (.bastore, 1) := by decide +kernel
theorem d23_93 : decode jdk_35_method_14_code 93 = .ok (.iload 10, 2) := by decide +kernel
theorem d23_95 : decode jdk_35_method_14_code 95 = .ok (.bipush 100, 2) := by decide +kernel
theorem d23_97 : decode jdk_35_method_14_code 97 = .ok (.idiv, 1) := by decide +kernel
theorem d23_98 : decode jdk_35_method_14_code 98 = .ok (.istore 9, 2) := by decide +kernel
theorem d23_100 : decode jdk_35_method_14_code 100 = .ok (.iload 9, 2) := by decide +kernel
theorem d23_102 : decode jdk_35_method_14_code 102 = .ok (.bipush 100, 2) := by decide +kernel
theorem d23_104 : decode jdk_35_method_14_code 104 = .ok (.imul, 1) := by decide +kernel
theorem d23_105 : decode jdk_35_method_14_code 105 = .ok (.iload 10, 2) := by decide +kernel
theorem d23_107 : decode jdk_35_method_14_code 107 = .ok (.isub, 1) := by decide +kernel
theorem d23_108 : decode jdk_35_method_14_code 108 = .ok (.istore 6, 2) := by decide +kernel
theorem d23_110 : decode jdk_35_method_14_code 110 = .ok (.iload 9, 2) := by decide +kernel
theorem d23_112 : decode jdk_35_method_14_code 112 = .ok (.istore 10, 2) := by decide +kernel
theorem d23_114 : decode jdk_35_method_14_code 114 = .ok (.aload_n 3, 1) := by decide +kernel
theorem d23_115 : decode jdk_35_method_14_code 115 = .ok (.iinc 7 (-1), 3) := by decide +kernel
theorem d23_118 : decode jdk_35_method_14_code 118 = .ok (.iload 7, 2) := by decide +kernel
theorem d23_120 : decode jdk_35_method_14_code 120 = .ok (.getstatic 133, 3) := by decide +kernel
theorem d23_123 : decode jdk_35_method_14_code 123 = .ok (.iload 6, 2) := by decide +kernel
theorem d23_125 : decode jdk_35_method_14_code 125 = .ok (.baload, 1) := by decide +kernel
theorem d23_126 : decode jdk_35_method_14_code 126 = .ok (.bastore, 1) := by decide +kernel
theorem d23_127 : decode jdk_35_method_14_code 127 = .ok (.aload_n 3, 1) := by decide +kernel
theorem d23_128 : decode jdk_35_method_14_code 128 = .ok (.iinc 7 (-1), 3) := by decide +kernel
theorem d23_131 : decode jdk_35_method_14_code 131 = .ok (.iload 7, 2) := by decide +kernel
theorem d23_133 : decode jdk_35_method_14_code 133 = .ok (.getstatic 137, 3) := by decide +kernel
theorem d23_136 : decode jdk_35_method_14_code 136 = .ok (.iload 6, 2) := by decide +kernel
theorem d23_138 : decode jdk_35_method_14_code 138 = .ok (.baload, 1) := by decide +kernel
theorem d23_139 : decode jdk_35_method_14_code 139 = .ok (.bastore, 1) := by decide +kernel
theorem d23_140 : decode jdk_35_method_14_code 140 = .ok (.goto (-54), 3) := by decide +kernel
theorem d23_24 : decode jdk_35_method_14_code 24 = .ok (.lload_n 0, 1) := by decide +kernel
theorem d23_25 : decode jdk_35_method_14_code 25 = .ok (.ldc2_w 129, 3) := by decide +kernel
theorem d23_28 : decode jdk_35_method_14_code 28 = .ok (.lcmp, 1) := by decide +kernel
theorem d23_29 : decode jdk_35_method_14_code 29 = .ok (.ifCond .gt 53, 3) := by decide +kernel
theorem d23_82 : decode jdk_35_method_14_code 82 = .ok (.lload_n 0, 1) := by decide +kernel
theorem d23_83 : decode jdk_35_method_14_code 83 = .ok (.l2i, 1) := by decide +kernel
theorem d23_84 : decode jdk_35_method_14_code 84 = .ok (.istore 10, 2) := by decide +kernel
theorem d23_32 : decode jdk_35_method_14_code 32 = .ok (.lload_n 0, 1) := by decide +kernel
theorem d23_33 : decode jdk_35_method_14_code 33 = .ok (.ldc2_w 131, 3) := by decide +kernel
theorem d23_36 : decode jdk_35_method_14_code 36 = .ok (.ldiv, 1) := by decide +kernel
theorem d23_37 : decode jdk_35_method_14_code 37 = .ok (.lstore 4, 2) := by decide +kernel
theorem d23_39 : decode jdk_35_method_14_code 39 = .ok (.lload 4, 2) := by decide +kernel
theorem d23_41 : decode jdk_35_method_14_code 41 = .ok (.ldc2_w 131, 3) := by decide +kernel
theorem d23_44 : decode jdk_35_method_14_code 44 = .ok (.lmul, 1) := by decide +kernel
theorem d23_45 : decode jdk_35_method_14_code 45 = .ok (.lload_n 0, 1) := by decide +kernel
theorem d23_46 : decode jdk_35_method_14_code 46 = .ok (.lsub, 1) := by decide +kernel
theorem d23_47 : decode jdk_35_method_14_code 47 = .ok (.l2i, 1) := by decide +kernel
theorem d23_48 : decode jdk_35_method_14_code 48 = .ok (.istore 6, 2) := by decide +kernel
theorem d23_50 : decode jdk_35_method_14_code 50 = .ok (.lload 4, 2) := by decide +kernel
theorem d23_52 : decode jdk_35_method_14_code 52 = .ok (.lstore_n 0, 1) := by decide +kernel
theorem d23_53 : decode jdk_35_method_14_code 53 = .ok (.aload_n 3, 1) := by decide +kernel
theorem d23_54 : decode jdk_35_method_14_code 54 = .ok (.iinc 7 (-1), 3) := by decide +kernel
theorem d23_57 : decode jdk_35_method_14_code 57 = .ok (.iload 7, 2) := by decide +kernel
theorem d23_59 : decode jdk_35_method_14_code 59 = .ok (.getstatic 133, 3) := by decide +kernel
theorem d23_62 : decode jdk_35_method_14_code 62 = .ok (.iload 6, 2) := by decide +kernel
theorem d23_64 : decode jdk_35_method_14_code 64 = .ok (.baload, 1) := by decide +kernel
theorem d23_65 : decode jdk_35_method_14_code 65 = .ok (.bastore, 1) := by decide +kernel
theorem d23_66 : decode jdk_35_method_14_code 66 = .ok (.aload_n 3, 1) := by decide +kernel
theorem d23_67 : decode jdk_35_method_14_code 67 = .ok (.iinc 7 (-1), 3) := by decide +kernel
theorem d23_70 : decode jdk_35_method_14_code 70 = .ok (.iload 7, 2) := by decide +kernel
theorem d23_72 : decode jdk_35_method_14_code 72 = .ok (.getstatic 137, 3) := by decide +kernel
theorem d23_75 : decode jdk_35_method_14_code 75 = .ok (.iload 6, 2) := by decide +kernel
theorem d23_77 : decode jdk_35_method_14_code 77 = .ok (.baload, 1) := by decide +kernel
theorem d23_78 : decode jdk_35_method_14_code 78 = .ok (.bastore, 1) := by decide +kernel
theorem d23_79 : decode jdk_35_method_14_code 79 = .ok (.goto (-55), 3) := by decide +kernel
theorem d23_0 : decode jdk_35_method_14_code 0 = .ok (.iload_n 2, 1) := by decide +kernel
theorem d23_1 : decode jdk_35_method_14_code 1 = .ok (.istore 7, 2) := by decide +kernel
theorem d23_3 : decode jdk_35_method_14_code 3 = .ok (.lload_n 0, 1) := by decide +kernel
theorem d23_4 : decode jdk_35_method_14_code 4 = .ok (.lconst 0, 1) := by decide +kernel
theorem d23_5 : decode jdk_35_method_14_code 5 = .ok (.lcmp, 1) := by decide +kernel
theorem d23_6 : decode jdk_35_method_14_code 6 = .ok (.ifCond .ge 7, 3) := by decide +kernel
theorem d23_9 : decode jdk_35_method_14_code 9 = .ok (.iconst 1, 1) := by decide +kernel
theorem d23_10 : decode jdk_35_method_14_code 10 = .ok (.goto 4, 3) := by decide +kernel
theorem d23_14 : decode jdk_35_method_14_code 14 = .ok (.istore 8, 2) := by decide +kernel
theorem d23_16 : decode jdk_35_method_14_code 16 = .ok (.iload 8, 2) := by decide +kernel
theorem d23_18 : decode jdk_35_method_14_code 18 = .ok (.ifCond .ne 6, 3) := by decide +kernel
theorem d23_13 : decode jdk_35_method_14_code 13 = .ok (.iconst 0, 1) := by decide +kernel
theorem d23_21 : decode jdk_35_method_14_code 21 = .ok (.lload_n 0, 1) := by decide +kernel
theorem d23_22 : decode jdk_35_method_14_code 22 = .ok (.lneg, 1) := by decide +kernel
theorem d23_23 : decode jdk_35_method_14_code 23 = .ok (.lstore_n 0, 1) := by decide +kernel
def Q_rmGc (Z : State) (xl : Int64) (gx : Int32) (vb : Nat) (kv : ClassId) (cp : Int32) (us : List Value) (gd : Nat) (ge : Nat) (kd : ClassId) (ke : ClassId) (h0 : Heap) (n0 : Nat) (v : Option Value) (h : Heap) (L : List Loc) : Prop := ∃ (r1 : Int32), v = some (.int r1) ∧ Fr n0 L ∧ Keep h0 h [vb] ∧ Arv Z h vb kv .byte cp (us ++ own_dec xl) (.int (0 : Int32))
set_option maxRecDepth 65536 in
set_option maxHeartbeats 40000000 in
theorem rmGc (l : Launch) (Z : State) (a0 : Array Value) (hw : ∀ d ∈ tables_1, d.before a0 Z = true) (ws : List Jvm.Cond) (xl : Int64) (gx : Int32) (vb : Nat) (kv : ClassId) (cp : Int32) (us : List Value) (gd : Nat) (ge : Nat) (kd : ClassId) (ke : ClassId) (h0 : Heap) (n0 : Nat) (Z0 : n0 ≤ h0.size) (P1 : Arv Z h0 vb kv .byte cp us (.int (0 : Int32))) (OLD : Old Z n0 h0) (P2 : Sta Z Z.heap "java/lang/Integer" "DigitOnes" "[B" (.ref gd)) (P3 : Sta Z Z.heap "java/lang/Integer" "DigitTens" "[B" (.ref ge)) (P4 : Arv Z Z.heap gd kd .byte (100 : Int32) own_ones (.int (0 : Int32))) (P5 : Arv Z Z.heap ge ke .byte (100 : Int32) own_tens (.int (0 : Int32))) (hgx : gx.toInt = ((us.length + (own_dec xl).length : Nat) : Int)) (hroom : ((us.length + (own_dec xl).length : Nat) : Int) ≤ cp.toInt) (gvb : n0 ≤ vb) :
    MetFree l (⟨"java/lang/Long", "getChars", "(JI[B)I"⟩ : MethodName) (head1 (Jvm.Cond.code (⟨"java/lang/Long", "getChars", "(JI[B)I"⟩ : MethodName) jdk_35_method_14_code 11 (some .int) :: ws) ({ frames := 0, cells := 0, slots := 0, locals := 0 } : Room)) (fun a U => a = #[(.long xl), (.int gx), (.ref vb)] ∧ Z.Warmed39 U.vm ∧ U.heap = h0) (fun _ _ _ _ _ => True) (fun _ U o U' => ∃ v L, o = .returned v ∧ Q_rmGc Z xl gx vb kv cp us gd ge kd ke h0 n0 v U'.heap L ∧ FrameEnd U o U' L ({ frames := 0, cells := 0, slots := 0, locals := 0 } : Room).cells ({ frames := 0, cells := 0, slots := 0, locals := 0 } : Room).slots) := by
  refine MetFree.of_bodySF (plainFor_of_name pn_java_lang_Long) hisR ?_
  intro p e s m args below meth c s₁ Bd hml0 hP hK
  obtain ⟨rfl, hZ, hh⟩ := hP
  have hx := Bd.exec
  have hby := Bd.bytes
  have hml : c.maxLocals = 11 := hml0
  have hown : s.vm.findClass "java/lang/Long" = some m.cls := findClass_of_methodNamed Bd.named
  have hnm := (name_of_methodNamed Bd.named Bd.method).1
  have X0 : Stand p l e ({ frames := 0, cells := 0, slots := 0, locals := 0 } : Room) s m #[(.long xl), (.int gx), (.ref vb)] below meth c s₁ [] 0 0 := Stand.of_body Bd
  have e0 : s₁.heap = h0 := by rw [← hh, Bd.state]; rfl
  have N0 := Fr.nil n0
  have pre0 : ∀ t, Steps p.tables e below (s₁.setTop (mkF m 0 #[.val (.long xl), .second, .val (.int gx), .val (.ref vb), .unset, .unset, .unset, .unset, .unset, .unset, .unset] [])) t → Steps p.tables e below (s₁.setTop (entryFrame m #[(.long xl), (.int gx), (.ref vb)] 11)) t := fun t k => castTop (ef_rmGc m xl gx vb) k
  have w_144 := hw _ (List.mem_of_getElem? (i := 144) rfl)
  have w_149 := hw _ (List.mem_of_getElem? (i := 149) rfl)
  have w_150 := hw _ (List.mem_of_getElem? (i := 150) rfl)
  have oz := OLD.1
  have lt_gd : gd < Z.heap.size := P4.lt
  have lt_ge : ge < Z.heap.size := P5.lt
  have lt_vb : vb < h0.size := P1.lt
  refine own_go (B := s₁.setTop (mkF m 0 #[.val (.long xl), .second, .val (.int gx), .val (.ref vb), .unset, .unset, .unset, .unset, .unset, .unset, .unset] [])) pre0 ?_
  refine own_nameP (fun P eP => ?_)
  have loop86 : ∀ (r : Nat) (N : Nat) (i2 : Int32) (cpos : Int32) (ng : Int32) (kk : Nat) (acc : List Value) (u0 : Slot) (u1 : Slot) (u4 : Slot) (u5 : Slot) (u6 : Slot) (u9 : Slot) (Tl_86 : State) (hl_86 : Heap) (Ll_86 : List Loc) (Xl_86 : Stand p l e ({ frames := 0, cells := 0, slots := 0, locals := 0 } : Room) s m #[(.long xl), (.int gx), (.ref vb)] below meth c Tl_86 Ll_86 0 0) (el_86 : Tl_86.heap = hl_86) (Nl_86 : Fr n0 Ll_86) (Kl_86 : Keep h0 hl_86 [vb]) (OLDl_86 : Old Z n0 hl_86) (Fl_86_0 : Arv Z hl_86 vb kv .byte cp (us ++ (List.replicate kk (Value.int (0 : Int32)) ++ acc)) (.int (0 : Int32))) (hN : i2.toInt = -(N : Int)) (hk : kk = (own_sg ng).length + (own_dg N).length) (hp : cpos.toInt = ((us.length + kk : Nat) : Int)) (hcc : ((us.length + kk + acc.length : Nat) : Int) ≤ cp.toInt) (hW : own_sg ng ++ (own_dg N ++ acc) = own_dec xl) (hu_u6 : u6 = .unset ∨ ∃ w : Int32, u6 = .val (.int w)) (hu_u9 : u9 = .unset ∨ ∃ w : Int32, u9 = .val (.int w)) (hr : N = r), ∃ t o, Steps p.tables e below (Tl_86.setTop (mkF m 86 #[u0, u1, .val (.int gx), .val (.ref vb), u4, u5, u6, .val (.int cpos), .val (.int ng), u9, .val (.int i2)] [])) t ∧ P t o := by
    intro r
    induction r using Nat.strongRecOn with
    | _ r ih86 =>
      intro N i2 cpos ng kk acc u0 u1 u4 u5 u6 u9 Tl_86 hl_86 Ll_86 Xl_86 el_86 Nl_86 Kl_86 OLDl_86 Fl_86_0 hN hk hp hcc hW hu_u6 hu_u9 hr
      have lel_86 : h0.size ≤ hl_86.size := Kl_86.1
      have ltl86_vb : vb < hl_86.size := Fl_86_0.lt
      show ∃ t o, Steps p.tables e below (Tl_86.setTop (mkF m 86 #[u0, u1, .val (.int gx), .val (.ref vb), u4, u5, u6, .val (.int cpos), .val (.int ng), u9, .val (.int i2)] [])) t ∧ _
      refine own_go (fun _ => XS.iload Xl_86.here hx rfl (hb hby d23_86) rfl) ?_
      refine own_go (fun _ => XS.bipush Xl_86.here hx rfl (hb hby d23_88)) ?_
      show ∃ t o, Steps p.tables e below (Tl_86.setTop (mkF m 90 #[u0, u1, .val (.int gx), .val (.ref vb), u4, u5, u6, .val (.int cpos), .val (.int ng), u9, .val (.int i2)] [(.int (-100 : Int32)), (.int i2)])) t ∧ _
      by_cases hc6 : (-100 : Int32) < i2
      · refine own_go (fun _ => XS.icmpYes Xl_86.here hx rfl (pc0 := 90) (pc' := 143) rfl (hb hby d23_90) rfl (tlt hc6).2.2.1 (by decide) (by decide)) ?_
        obtain ⟨hlt, hng⟩ := own_i2 hN hc6
        have hgp := own_dg_pos N
        have Dn7 := own_dn (al := (acc).length) hp (show 0 < kk by omega) (by have q := hcc; (try simp only [List.length_cons] at q ⊢); omega)
        refine own_go (fun _ => XS.aloadN Xl_86.here hx rfl (hb hby d23_143) rfl rfl) ?_
        refine own_go (fun _ => XS.iinc Xl_86.here hx rfl (hb hby d23_144) rfl (l' := #[u0, u1, .val (.int gx), .val (.ref vb), u4, u5, u6, .val (.int (cpos + (-1 : Int32))), .val (.int ng), u9, .val (.int i2)]) rfl) ?_
        refine own_go (fun _ => XS.iload Xl_86.here hx rfl (hb hby d23_147) rfl) ?_
        obtain ⟨T8, X8, e8, st8⟩ := getS2 Xl_86 hx hZ hown (host := "") (Or.inl w_144) Via.refl el_86 (Sta.ext OLDl_86.2 P2) (g := (mkF m 149 #[u0, u1, .val (.int gx), .val (.ref vb), u4, u5, u6, .val (.int (cpos + (-1 : Int32))), .val (.int ng), u9, .val (.int i2)] [(.int (cpos + (-1 : Int32))), (.ref vb)])) rfl (hb hby d23_149)
        refine own_go st8 ?_
        refine own_go (fun _ => XS.iload X8.here hx rfl (hb hby d23_152) rfl) ?_
        refine own_go (fun _ => XS.ineg X8.here hx rfl (hb hby d23_154) rfl) ?_
        obtain ⟨cl9, Ar9, q9, S9, N9, H9, G9⟩ := id (Arv.ext P4 OLDl_86.2)
        have hin9 : ¬ ((-i2) < 0 ∨ cl9.slots.size ≤ ((-i2)).toNatClampNeg) := inb_of S9 (own_in100 hng hlt)
        have hat9 : cl9.slots[((-i2)).toNatClampNeg]? = some (.int (Int32.ofNat (48 + N % 10))) := Has.at H9 hin9 (own_ones_at hng hlt)
        refine own_go (fun _ => X8.baloadBytes hx (j := (-i2)) (v := (.int (Int32.ofNat (48 + N % 10)))) (by rw [e8]; exact Ar9.1) (State.isArrayOf_alike hZ.alike Ar9.2.1) Ar9.2.2 hin9 hat9 (g := (mkF m 155 #[u0, u1, .val (.int gx), .val (.ref vb), u4, u5, u6, .val (.int (cpos + (-1 : Int32))), .val (.int ng), u9, .val (.int i2)] [(.int (-i2)), (.ref gd), (.int (cpos + (-1 : Int32))), (.ref vb)])) rfl rfl (hb hby d23_155) _) ?_
        obtain ⟨cl10, Ar10, q10, S10, N10, H10, G10⟩ := id Fl_86_0
        have hin10 : ¬ ((cpos + (-1 : Int32)) < 0 ∨ cl10.slots.size ≤ ((cpos + (-1 : Int32))).toNatClampNeg) := inb_of S10 ⟨Dn7.1, Dn7.2.1⟩
        obtain ⟨T11, h11, X11, e11, W11, st11⟩ := stB X8 hx hZ e8 Ar10 (j := (cpos + (-1 : Int32))) hin10 (g := (mkF m 156 #[u0, u1, .val (.int gx), .val (.ref vb), u4, u5, u6, .val (.int (cpos + (-1 : Int32))), .val (.int ng), u9, .val (.int i2)] [(.int (Int32.ofNat (48 + N % 10))), (.int (cpos + (-1 : Int32))), (.ref vb)])) rfl rfl (hb hby d23_156)
        refine own_go st11 ?_
        have le_11 : hl_86.size ≤ h11.size := Nat.le_of_eq W11.size.symm
        have K11 : Keep h0 h11 [vb] := Keep.wr Kl_86 W11 (Or.inl (List.mem_of_getElem? (i := 0) rfl))
        have N11 := Fr.snoc X11 Nl_86 gvb
        have V11 : Arv Z h11 vb kv .byte cp ((us ++ (List.replicate kk (Value.int (0 : Int32)) ++ acc)).set ((cpos + (-1 : Int32))).toNatClampNeg (.int (Int32.ofNat (48 + N % 10)).toInt8.toInt32)) (.int (0 : Int32)) := Arv.set Ar10 q10 S10 N10 H10 G10 (fits_nar_byte _) W11 ((cpos + (-1 : Int32))).toNatClampNeg rfl (by rw [Dn7.2.2.1]; simp only [List.length_append, List.length_replicate]; omega)
        have Vs12 : Arv Z h11 vb kv .byte cp (us ++ (List.replicate (kk - 1) (Value.int (0 : Int32)) ++ ((own_dig (N % 10)) :: acc))) (.int (0 : Int32)) := by have q := V11; rw [own_set (by omega) Dn7.2.2.1] at q; exact q
        have Cc13 : ((us.length + (kk - 1) + (((own_dig (N % 10)) :: acc)).length : Nat) : Int) ≤ cp.toInt := by have q := hcc; (try simp only [List.length_cons] at q ⊢); omega
        refine own_go (fun _ => XS.iload X11.here hx rfl (hb hby d23_157) rfl) ?_
        show ∃ t o, Steps p.tables e below (T11.setTop (mkF m 159 #[u0, u1, .val (.int gx), .val (.ref vb), u4, u5, u6, .val (.int (cpos + (-1 : Int32))), .val (.int ng), u9, .val (.int i2)] [(.int i2)])) t ∧ _
        refine own_go (fun _ => XS.bipush X11.here hx rfl (hb hby d23_159)) ?_
        show ∃ t o, Steps p.tables e below (T11.setTop (mkF m 161 #[u0, u1, .val (.int gx), .val (.ref vb), u4, u5, u6, .val (.int (cpos + (-1 : Int32))), .val (.int ng), u9, .val (.int i2)] [(.int (-9 : Int32)), (.int i2)])) t ∧ _
        by_cases hc14 : i2 < (-9 : Int32)
        · refine own_go (fun _ => XS.icmpNo X11.here hx rfl (hb hby d23_161) rfl (tlt hc14).2.1) ?_
          have h10 := (own_i3 hN).mp hc14
          have hdg := own_dgb h10 hlt
          have hl3 : (own_dg N).length = 2 := by rw [hdg]; rfl
          have Dn15 := own_dn (al := (((own_dig (N % 10)) :: acc)).length) Dn7.2.2.2 (show 0 < (kk - 1) by omega) (by have q := Cc13; (try simp only [List.length_cons] at q ⊢); omega)
          refine own_go (fun _ => XS.aloadN X11.here hx rfl (hb hby d23_164) rfl rfl) ?_
          refine own_go (fun _ => XS.iinc X11.here hx rfl (hb hby d23_165) rfl (l' := #[u0, u1, .val (.int gx), .val (.ref vb), u4, u5, u6, .val (.int ((cpos + (-1 : Int32)) + (-1 : Int32))), .val (.int ng), u9, .val (.int i2)]) rfl) ?_
          refine own_go (fun _ => XS.iload X11.here hx rfl (hb hby d23_168) rfl) ?_
          have F16 := (Old.wr OLDl_86 W11 gvb)
          obtain ⟨T17, X17, e17, st17⟩ := getS2 X11 hx hZ hown (host := "") (Or.inl w_150) Via.refl e11 (Sta.ext F16.2 P3) (g := (mkF m 170 #[u0, u1, .val (.int gx), .val (.ref vb), u4, u5, u6, .val (.int ((cpos + (-1 : Int32)) + (-1 : Int32))), .val (.int ng), u9, .val (.int i2)] [(.int ((cpos + (-1 : Int32)) + (-1 : Int32))), (.ref vb)])) rfl (hb hby d23_170)
          refine own_go st17 ?_
          refine own_go (fun _ => XS.iload X17.here hx rfl (hb hby d23_173) rfl) ?_
          refine own_go (fun _ => XS.ineg X17.here hx rfl (hb hby d23_175) rfl) ?_
          obtain ⟨cl18, Ar18, q18, S18, N18, H18, G18⟩ := id (Arv.ext P5 F16.2)
          have hin18 : ¬ ((-i2) < 0 ∨ cl18.slots.size ≤ ((-i2)).toNatClampNeg) := inb_of S18 (own_in100 hng hlt)
          have hat18 : cl18.slots[((-i2)).toNatClampNeg]? = some (.int (Int32.ofNat (48 + N / 10))) := Has.at H18 hin18 (own_tens_at hng hlt)
          refine own_go (fun _ => X17.baloadBytes hx (j := (-i2)) (v := (.int (Int32.ofNat (48 + N / 10)))) (by rw [e17]; exact Ar18.1) (State.isArrayOf_alike hZ.alike Ar18.2.1) Ar18.2.2 hin18 hat18 (g := (mkF m 176 #[u0, u1, .val (.int gx), .val (.ref vb), u4, u5, u6, .val (.int ((cpos + (-1 : Int32)) + (-1 : Int32))), .val (.int ng), u9, .val (.int i2)] [(.int (-i2)), (.ref ge), (.int ((cpos + (-1 : Int32)) + (-1 : Int32))), (.ref vb)])) rfl rfl (hb hby d23_176) _) ?_
          obtain ⟨cl19, Ar19, q19, S19, N19, H19, G19⟩ := id Vs12
          have hin19 : ¬ (((cpos + (-1 : Int32)) + (-1 : Int32)) < 0 ∨ cl19.slots.size ≤ (((cpos + (-1 : Int32)) + (-1 : Int32))).toNatClampNeg) := inb_of S19 ⟨Dn15.1, Dn15.2.1⟩
          obtain ⟨T20, h20, X20, e20, W20, st20⟩ := stB X17 hx hZ e17 Ar19 (j := ((cpos + (-1 : Int32)) + (-1 : Int32))) hin19 (g := (mkF m 177 #[u0, u1, .val (.int gx), .val (.ref vb), u4, u5, u6, .val (.int ((cpos + (-1 : Int32)) + (-1 : Int32))), .val (.int ng), u9, .val (.int i2)] [(.int (Int32.ofNat (48 + N / 10))), (.int ((cpos + (-1 : Int32)) + (-1 : Int32))), (.ref vb)])) rfl rfl (hb hby d23_177)
          refine own_go st20 ?_
          have le_20 : h11.size ≤ h20.size := Nat.le_of_eq W20.size.symm
          have K20 : Keep h0 h20 [vb] := Keep.wr K11 W20 (Or.inl (List.mem_of_getElem? (i := 0) rfl))
          have N20 := Fr.snoc X20 N11 gvb
          have V20 : Arv Z h20 vb kv .byte cp ((us ++ (List.replicate (kk - 1) (Value.int (0 : Int32)) ++ ((own_dig (N % 10)) :: acc))).set (((cpos + (-1 : Int32)) + (-1 : Int32))).toNatClampNeg (.int (Int32.ofNat (48 + N / 10)).toInt8.toInt32)) (.int (0 : Int32)) := Arv.set Ar19 q19 S19 N19 H19 G19 (fits_nar_byte _) W20 (((cpos + (-1 : Int32)) + (-1 : Int32))).toNatClampNeg rfl (by rw [Dn15.2.2.1]; simp only [List.length_append, List.length_replicate]; omega)
          have Vs21 : Arv Z h20 vb kv .byte cp (us ++ (List.replicate ((kk - 1) - 1) (Value.int (0 : Int32)) ++ ((own_dig (N / 10)) :: ((own_dig (N % 10)) :: acc)))) (.int (0 : Int32)) := by have q := V20; rw [own_set (by omega) Dn15.2.2.1] at q; exact q
          have Cc22 : ((us.length + ((kk - 1) - 1) + (((own_dig (N / 10)) :: ((own_dig (N % 10)) :: acc))).length : Nat) : Int) ≤ cp.toInt := by have q := hcc; (try simp only [List.length_cons] at q ⊢); omega
          refine own_go (fun _ => XS.iload X20.here hx rfl (hb hby d23_178) rfl) ?_
          show ∃ t o, Steps p.tables e below (T20.setTop (mkF m 180 #[u0, u1, .val (.int gx), .val (.ref vb), u4, u5, u6, .val (.int ((cpos + (-1 : Int32)) + (-1 : Int32))), .val (.int ng), u9, .val (.int i2)] [(.int ng)])) t ∧ _
          by_cases hc23 : ng = (0 : Int32)
          · refine own_go (fun _ => XS.ifYes X20.here hx rfl (pc0 := 180) (pc' := 192) rfl (hb hby d23_180) rfl ((if0 _ _).trans (teq hc23).1) (by decide) (by decide)) ?_
            have hsg : own_sg ng = [] := if_pos hc23
            have hsl : (own_sg ng).length = 0 := by rw [hsg]; rfl
            have hkz : ((kk - 1) - 1) = 0 := by omega
            have Vz : Arv Z h20 vb kv .byte cp (us ++ own_dec xl) (.int (0 : Int32)) := by have q := Vs21; rw [hkz] at q; rw [← hW, hsg, hdg]; exact q
            refine own_go (fun _ => XS.iload X20.here hx rfl (hb hby d23_192) rfl) ?_
            show ∃ t o, Steps p.tables e below (T20.setTop (mkF m 194 #[u0, u1, .val (.int gx), .val (.ref vb), u4, u5, u6, .val (.int ((cpos + (-1 : Int32)) + (-1 : Int32))), .val (.int ng), u9, .val (.int i2)] [(.int ((cpos + (-1 : Int32)) + (-1 : Int32)))])) t ∧ _
            subst eP
            obtain ⟨fs, hr, hrun, hended, hW, hsame⟩ := X20.leave (v := some (.int ((cpos + (-1 : Int32)) + (-1 : Int32)))) (fun h => by rw [Bd.returns] at h; cases h)
            refine ⟨_, _, ?_, hrun, hended, _, _, rfl, ?_, ⟨_, rfl⟩, hW, hsame.mono (by decide) (by decide)⟩
            · exact retI X20 hx Bd.returns (hb hby d23_194) hr
            · show Q_rmGc Z _ _ _ _ _ _ _ _ _ _ h0 n0 _ T20.heap _
              rw [e20]
              exact ⟨((cpos + (-1 : Int32)) + (-1 : Int32)), rfl, N20, K20, Vz⟩
          · refine own_go (fun _ => XS.ifNo X20.here hx rfl (hb hby d23_180) rfl ((if0 _ _).trans (feq hc23).1)) ?_
            have hsg : own_sg ng = [.int ((45 : Int32).toInt8.toInt32)] := if_neg hc23
            have hsl : (own_sg ng).length = 1 := by rw [hsg]; rfl
            have Dn24 := own_dn (al := (((own_dig (N / 10)) :: ((own_dig (N % 10)) :: acc))).length) Dn15.2.2.2 (show 0 < ((kk - 1) - 1) by omega) (by have q := Cc22; (try simp only [List.length_cons] at q ⊢); omega)
            refine own_go (fun _ => XS.aloadN X20.here hx rfl (hb hby d23_183) rfl rfl) ?_
            refine own_go (fun _ => XS.iinc X20.here hx rfl (hb hby d23_184) rfl (l' := #[u0, u1, .val (.int gx), .val (.ref vb), u4, u5, u6, .val (.int (((cpos + (-1 : Int32)) + (-1 : Int32)) + (-1 : Int32))), .val (.int ng), u9, .val (.int i2)]) rfl) ?_
            refine own_go (fun _ => XS.iload X20.here hx rfl (hb hby d23_187) rfl) ?_
            refine own_go (fun _ => XS.bipush X20.here hx rfl (hb hby d23_189)) ?_
            obtain ⟨cl25, Ar25, q25, S25, N25, H25, G25⟩ := id Vs21
            have hin25 : ¬ ((((cpos + (-1 : Int32)) + (-1 : Int32)) + (-1 : Int32)) < 0 ∨ cl25.slots.size ≤ ((((cpos + (-1 : Int32)) + (-1 : Int32)) + (-1 : Int32))).toNatClampNeg) := inb_of S25 ⟨Dn24.1, Dn24.2.1⟩
            obtain ⟨T26, h26, X26, e26, W26, st26⟩ := stB X20 hx hZ e20 Ar25 (j := (((cpos + (-1 : Int32)) + (-1 : Int32)) + (-1 : Int32))) hin25 (g := (mkF m 191 #[u0, u1, .val (.int gx), .val (.ref vb), u4, u5, u6, .val (.int (((cpos + (-1 : Int32)) + (-1 : Int32)) + (-1 : Int32))), .val (.int ng), u9, .val (.int i2)] [(.int (45 : Int32)), (.int (((cpos + (-1 : Int32)) + (-1 : Int32)) + (-1 : Int32))), (.ref vb)])) rfl rfl (hb hby d23_191)
            refine own_go st26 ?_
            have le_26 : h20.size ≤ h26.size := Nat.le_of_eq W26.size.symm
            have K26 : Keep h0 h26 [vb] := Keep.wr K20 W26 (Or.inl (List.mem_of_getElem? (i := 0) rfl))
            have N26 := Fr.snoc X26 N20 gvb
            have V26 : Arv Z h26 vb kv .byte cp ((us ++ (List.replicate ((kk - 1) - 1) (Value.int (0 : Int32)) ++ ((own_dig (N / 10)) :: ((own_dig (N % 10)) :: acc)))).set ((((cpos + (-1 : Int32)) + (-1 : Int32)) + (-1 : Int32))).toNatClampNeg (.int (45 : Int32).toInt8.toInt32)) (.int (0 : Int32)) := Arv.set Ar25 q25 S25 N25 H25 G25 (fits_nar_byte _) W26 ((((cpos + (-1 : Int32)) + (-1 : Int32)) + (-1 : Int32))).toNatClampNeg rfl (by rw [Dn24.2.2.1]; simp only [List.length_append, List.length_replicate]; omega)
            have Vs27 : Arv Z h26 vb kv .byte cp (us ++ (List.replicate (((kk - 1) - 1) - 1) (Value.int (0 : Int32)) ++ ((.int ((45 : Int32).toInt8.toInt32)) :: ((own_dig (N / 10)) :: ((own_dig (N % 10)) :: acc))))) (.int (0 : Int32)) := by have q := V26; rw [own_set (by omega) Dn24.2.2.1] at q; exact q
            have Cc28 : ((us.length + (((kk - 1) - 1) - 1) + (((.int ((45 : Int32).toInt8.toInt32)) :: ((own_dig (N / 10)) :: ((own_dig (N % 10)) :: acc)))).length : Nat) : Int) ≤ cp.toInt := by have q := hcc; (try simp only [List.length_cons] at q ⊢); omega
            have hkz : (((kk - 1) - 1) - 1) = 0 := by omega
            have Vz : Arv Z h26 vb kv .byte cp (us ++ own_dec xl) (.int (0 : Int32)) := by have q := Vs27; rw [hkz] at q; rw [← hW, hsg, hdg]; exact q
            refine own_go (fun _ => XS.iload X26.here hx rfl (hb hby d23_192) rfl) ?_
            show ∃ t o, Steps p.tables e below (T26.setTop (mkF m 194 #[u0, u1, .val (.int gx), .val (.ref vb), u4, u5, u6, .val (.int (((cpos + (-1 : Int32)) + (-1 : Int32)) + (-1 : Int32))), .val (.int ng), u9, .val (.int i2)] [(.int (((cpos + (-1 : Int32)) + (-1 : Int32)) + (-1 : Int32)))])) t ∧ _
            subst eP
            obtain ⟨fs, hr, hrun, hended, hW, hsame⟩ := X26.leave (v := some (.int (((cpos + (-1 : Int32)) + (-1 : Int32)) + (-1 : Int32)))) (fun h => by rw [Bd.returns] at h; cases h)
            refine ⟨_, _, ?_, hrun, hended, _, _, rfl, ?_, ⟨_, rfl⟩, hW, hsame.mono (by decide) (by decide)⟩
            · exact retI X26 hx Bd.returns (hb hby d23_194) hr
            · show Q_rmGc Z _ _ _ _ _ _ _ _ _ _ h0 n0 _ T26.heap _
              rw [e26]
              exact ⟨(((cpos + (-1 : Int32)) + (-1 : Int32)) + (-1 : Int32)), rfl, N26, K26, Vz⟩
        · refine own_go (fun _ => XS.icmpYes X11.here hx rfl (pc0 := 161) (pc' := 178) rfl (hb hby d23_161) rfl (flt hc14).2.1 (by decide) (by decide)) ?_
          have h10 : N < 10 := Nat.lt_of_not_le (mt (own_i3 hN).mpr hc14)
          have hdg : own_dg N = [own_dig (N % 10)] := by rw [own_dg1 h10, Nat.mod_eq_of_lt h10]
          have hl3 : (own_dg N).length = 1 := by rw [hdg]; rfl
          refine own_go (fun _ => XS.iload X11.here hx rfl (hb hby d23_178) rfl) ?_
          show ∃ t o, Steps p.tables e below (T11.setTop (mkF m 180 #[u0, u1, .val (.int gx), .val (.ref vb), u4, u5, u6, .val (.int (cpos + (-1 : Int32))), .val (.int ng), u9, .val (.int i2)] [(.int ng)])) t ∧ _
          by_cases hc29 : ng = (0 : Int32)
          · refine own_go (fun _ => XS.ifYes X11.here hx rfl (pc0 := 180) (pc' := 192) rfl (hb hby d23_180) rfl ((if0 _ _).trans (teq hc29).1) (by decide) (by decide)) ?_
            have hsg : own_sg ng = [] := if_pos hc29
            have hsl : (own_sg ng).length = 0 := by rw [hsg]; rfl
            have hkz : (kk - 1) = 0 := by omega
            have Vz : Arv Z h11 vb kv .byte cp (us ++ own_dec xl) (.int (0 : Int32)) := by have q := Vs12; rw [hkz] at q; rw [← hW, hsg, hdg]; exact q
            refine own_go (fun _ => XS.iload X11.here hx rfl (hb hby d23_192) rfl) ?_
            show ∃ t o, Steps p.tables e below (T11.setTop (mkF m 194 #[u0, u1, .val (.int gx), .val (.ref vb), u4, u5, u6, .val (.int (cpos + (-1 : Int32))), .val (.int ng), u9, .val (.int i2)] [(.int (cpos + (-1 : Int32)))])) t ∧ _
            subst eP
            obtain ⟨fs, hr, hrun, hended, hW, hsame⟩ := X11.leave (v := some (.int (cpos + (-1 : Int32)))) (fun h => by rw [Bd.returns] at h; cases h)
            refine ⟨_, _, ?_, hrun, hended, _, _, rfl, ?_, ⟨_, rfl⟩, hW, hsame.mono (by decide) (by decide)⟩
            · exact retI X11 hx Bd.returns (hb hby d23_194) hr
            · show Q_rmGc Z _ _ _ _ _ _ _ _ _ _ h0 n0 _ T11.heap _
              rw [e11]
              exact ⟨(cpos + (-1 : Int32)), rfl, N11, K11, Vz⟩
          · refine own_go (fun _ => XS.ifNo X11.here hx rfl (hb hby d23_180) rfl ((if0 _ _).trans (feq hc29).1)) ?_
            have hsg : own_sg ng = [.int ((45 : Int32).toInt8.toInt32)] := if_neg hc29
            have hsl : (own_sg ng).length = 1 := by rw [hsg]; rfl
            have Dn30 := own_dn (al := (((own_dig (N % 10)) :: acc)).length) Dn7.2.2.2 (show 0 < (kk - 1) by omega) (by have q := Cc13; (try simp only [List.length_cons] at q ⊢); omega)
            refine own_go (fun _ => XS.aloadN X11.here hx rfl (hb hby d23_183) rfl rfl) ?_
            refine own_go (fun _ => XS.iinc X11.here hx rfl (hb hby d23_184) rfl (l' := #[u0, u1, .val (.int gx), .val (.ref vb), u4, u5, u6, .val (.int ((cpos + (-1 : Int32)) + (-1 : Int32))), .val (.int ng), u9, .val (.int i2)]) rfl) ?_
            refine own_go (fun _ => XS.iload X11.here hx rfl (hb hby d23_187) rfl) ?_
            refine own_go (fun _ => XS.bipush X11.here hx rfl (hb hby d23_189)) ?_
            obtain ⟨cl31, Ar31, q31, S31, N31, H31, G31⟩ := id Vs12
            have hin31 : ¬ (((cpos + (-1 : Int32)) + (-1 : Int32)) < 0 ∨ cl31.slots.size ≤ (((cpos + (-1 : Int32)) + (-1 : Int32))).toNatClampNeg) := inb_of S31 ⟨Dn30.1, Dn30.2.1⟩
            obtain ⟨T32, h32, X32, e32, W32, st32⟩ := stB X11 hx hZ e11 Ar31 (j := ((cpos + (-1 : Int32)) + (-1 : Int32))) hin31 (g := (mkF m 191 #[u0, u1, .val (.int gx), .val (.ref vb), u4, u5, u6, .val (.int ((cpos + (-1 : Int32)) + (-1 : Int32))), .val (.int ng), u9, .val (.int i2)] [(.int (45 : Int32)), (.int ((cpos + (-1 : Int32)) + (-1 : Int32))), (.ref vb)])) rfl rfl (hb hby d23_191)
            refine own_go st32 ?_
            have le_32 : h11.size ≤ h32.size := Nat.le_of_eq W32.size.symm
            have K32 : Keep h0 h32 [vb] := Keep.wr K11 W32 (Or.inl (List.mem_of_getElem? (i := 0) rfl))
            have N32 := Fr.snoc X32 N11 gvb
            have V32 : Arv Z h32 vb kv .byte cp ((us ++ (List.replicate (kk - 1) (Value.int (0 : Int32)) ++ ((own_dig (N % 10)) :: acc))).set (((cpos + (-1 : Int32)) + (-1 : Int32))).toNatClampNeg (.int (45 : Int32).toInt8.toInt32)) (.int (0 : Int32)) := Arv.set Ar31 q31 S31 N31 H31 G31 (fits_nar_byte _) W32 (((cpos + (-1 : Int32)) + (-1 : Int32))).toNatClampNeg rfl (by rw [Dn30.2.2.1]; simp only [List.length_append, List.length_replicate]; omega)
            have Vs33 : Arv Z h32 vb kv .byte cp (us ++ (List.replicate ((kk - 1) - 1) (Value.int (0 : Int32)) ++ ((.int ((45 : Int32).toInt8.toInt32)) :: ((own_dig (N % 10)) :: acc)))) (.int (0 : Int32)) := by have q := V32; rw [own_set (by omega) Dn30.2.2.1] at q; exact q
            have Cc34 : ((us.length + ((kk - 1) - 1) + (((.int ((45 : Int32).toInt8.toInt32)) :: ((own_dig (N % 10)) :: acc))).length : Nat) : Int) ≤ cp.toInt := by have q := hcc; (try simp only [List.length_cons] at q ⊢); omega
            have hkz : ((kk - 1) - 1) = 0 := by omega
            have Vz : Arv Z h32 vb kv .byte cp (us ++ own_dec xl) (.int (0 : Int32)) := by have q := Vs33; rw [hkz] at q; rw [← hW, hsg, hdg]; exact q
            refine own_go (fun _ => XS.iload X32.here hx rfl (hb hby d23_192) rfl) ?_
            show ∃ t o, Steps p.tables e below (T32.setTop (mkF m 194 #[u0, u1, .val (.int gx), .val (.ref vb), u4, u5, u6, .val (.int ((cpos + (-1 : Int32)) + (-1 : Int32))), .val (.int ng), u9, .val (.int i2)] [(.int ((cpos + (-1 : Int32)) + (-1 : Int32)))])) t ∧ _
            subst eP
            obtain ⟨fs, hr, hrun, hended, hW, hsame⟩ := X32.leave (v := some (.int ((cpos + (-1 : Int32)) + (-1 : Int32)))) (fun h => by rw [Bd.returns] at h; cases h)
            refine ⟨_, _, ?_, hrun, hended, _, _, rfl, ?_, ⟨_, rfl⟩, hW, hsame.mono (by decide) (by decide)⟩
            · exact retI X32 hx Bd.returns (hb hby d23_194) hr
            · show Q_rmGc Z _ _ _ _ _ _ _ _ _ _ h0 n0 _ T32.heap _
              rw [e32]
              exact ⟨((cpos + (-1 : Int32)) + (-1 : Int32)), rfl, N32, K32, Vz⟩
      · refine own_go (fun _ => XS.icmpNo Xl_86.here hx rfl (hb hby d23_90) rfl (flt hc6).2.2.1) ?_
        obtain ⟨h100, hdv, hrm⟩ := own_i1 hN hc6
        have hl2 : (own_dg N).length = (own_dg (N / 100)).length + 2 := by rw [own_dg2 h100, List.length_append]; rfl
        have hgp := own_dg_pos (N / 100)
        have Dn35 := own_dn (al := (acc).length) hp (show 0 < kk by omega) (by have q := hcc; (try simp only [List.length_cons] at q ⊢); omega)
        refine own_go (fun _ => XS.iload Xl_86.here hx rfl (hb hby d23_93) rfl) ?_
        refine own_go (fun _ => XS.bipush Xl_86.here hx rfl (hb hby d23_95)) ?_
        refine own_go (fun _ => XS.idiv Xl_86.here hx rfl (hb hby d23_97) rfl (by decide)) ?_
        have hs36 : storeLocals #[u0, u1, .val (.int gx), .val (.ref vb), u4, u5, u6, .val (.int cpos), .val (.int ng), u9, .val (.int i2)] 9 (.int (i2 / (100 : Int32))) = some #[u0, u1, .val (.int gx), .val (.ref vb), u4, u5, u6, .val (.int cpos), .val (.int ng), .val (.int (i2 / (100 : Int32))), .val (.int i2)] := by rcases hu_u9 with rfl | ⟨w, rfl⟩ <;> rfl
        refine own_go (fun _ => XS.istore Xl_86.here hx rfl (hb hby d23_98) rfl (l' := #[u0, u1, .val (.int gx), .val (.ref vb), u4, u5, u6, .val (.int cpos), .val (.int ng), .val (.int (i2 / (100 : Int32))), .val (.int i2)]) hs36) ?_
        refine own_go (fun _ => XS.iload Xl_86.here hx rfl (hb hby d23_100) rfl) ?_
        refine own_go (fun _ => XS.bipush Xl_86.here hx rfl (hb hby d23_102)) ?_
        refine own_go (fun _ => XS.imul Xl_86.here hx rfl (hb hby d23_104) rfl) ?_
        refine own_go (fun _ => XS.iload Xl_86.here hx rfl (hb hby d23_105) rfl) ?_
        refine own_go (fun _ => XS.isub Xl_86.here hx rfl (hb hby d23_107) rfl) ?_
        show ∃ t o, Steps p.tables e below (Tl_86.setTop (mkF m 108 #[u0, u1, .val (.int gx), .val (.ref vb), u4, u5, u6, .val (.int cpos), .val (.int ng), .val (.int (i2 / (100 : Int32))), .val (.int i2)] [(.int (((i2 / (100 : Int32)) * (100 : Int32)) - i2))])) t ∧ _
        have hs37 : storeLocals #[u0, u1, .val (.int gx), .val (.ref vb), u4, u5, u6, .val (.int cpos), .val (.int ng), .val (.int (i2 / (100 : Int32))), .val (.int i2)] 6 (.int (((i2 / (100 : Int32)) * (100 : Int32)) - i2)) = some #[u0, u1, .val (.int gx), .val (.ref vb), u4, u5, .val (.int (((i2 / (100 : Int32)) * (100 : Int32)) - i2)), .val (.int cpos), .val (.int ng), .val (.int (i2 / (100 : Int32))), .val (.int i2)] := by rcases hu_u6 with rfl | ⟨w, rfl⟩ <;> rfl
        refine own_go (fun _ => XS.istore Xl_86.here hx rfl (hb hby d23_108) rfl (l' := #[u0, u1, .val (.int gx), .val (.ref vb), u4, u5, .val (.int (((i2 / (100 : Int32)) * (100 : Int32)) - i2)), .val (.int cpos), .val (.int ng), .val (.int (i2 / (100 : Int32))), .val (.int i2)]) hs37) ?_
        refine own_go (fun _ => XS.iload Xl_86.here hx rfl (hb hby d23_110) rfl) ?_
        refine own_go (fun _ => XS.istore Xl_86.here hx rfl (hb hby d23_112) rfl (l' := #[u0, u1, .val (.int gx), .val (.ref vb), u4, u5, .val (.int (((i2 / (100 : Int32)) * (100 : Int32)) - i2)), .val (.int cpos), .val (.int ng), .val (.int (i2 / (100 : Int32))), .val (.int (i2 / (100 : Int32)))]) rfl) ?_
        refine own_go (fun _ => XS.aloadN Xl_86.here hx rfl (hb hby d23_114) rfl rfl) ?_
        refine own_go (fun _ => XS.iinc Xl_86.here hx rfl (hb hby d23_115) rfl (l' := #[u0, u1, .val (.int gx), .val (.ref vb), u4, u5, .val (.int (((i2 / (100 : Int32)) * (100 : Int32)) - i2)), .val (.int (cpos + (-1 : Int32))), .val (.int ng), .val (.int (i2 / (100 : Int32))), .val (.int (i2 / (100 : Int32)))]) rfl) ?_
        refine own_go (fun _ => XS.iload Xl_86.here hx rfl (hb hby d23_118) rfl) ?_
        obtain ⟨T38, X38, e38, st38⟩ := getS2 Xl_86 hx hZ hown (host := "") (Or.inl w_144) Via.refl el_86 (Sta.ext OLDl_86.2 P2) (g := (mkF m 120 #[u0, u1, .val (.int gx), .val (.ref vb), u4, u5, .val (.int (((i2 / (100 : Int32)) * (100 : Int32)) - i2)), .val (.int (cpos + (-1 : Int32))), .val (.int ng), .val (.int (i2 / (100 : Int32))), .val (.int (i2 / (100 : Int32)))] [(.int (cpos + (-1 : Int32))), (.ref vb)])) rfl (hb hby d23_120)
        refine own_go st38 ?_
        refine own_go (fun _ => XS.iload X38.here hx rfl (hb hby d23_123) rfl) ?_
        obtain ⟨cl39, Ar39, q39, S39, N39, H39, G39⟩ := id (Arv.ext P4 OLDl_86.2)
        have hin39 : ¬ ((((i2 / (100 : Int32)) * (100 : Int32)) - i2) < 0 ∨ cl39.slots.size ≤ ((((i2 / (100 : Int32)) * (100 : Int32)) - i2)).toNatClampNeg) := inb_of S39 (own_in100 hrm (Nat.mod_lt _ (by decide)))
        have hat39 : cl39.slots[((((i2 / (100 : Int32)) * (100 : Int32)) - i2)).toNatClampNeg]? = some (.int (Int32.ofNat (48 + N % 100 % 10))) := Has.at H39 hin39 (own_ones_at hrm (Nat.mod_lt _ (by decide)))
        refine own_go (fun _ => X38.baloadBytes hx (j := (((i2 / (100 : Int32)) * (100 : Int32)) - i2)) (v := (.int (Int32.ofNat (48 + N % 100 % 10)))) (by rw [e38]; exact Ar39.1) (State.isArrayOf_alike hZ.alike Ar39.2.1) Ar39.2.2 hin39 hat39 (g := (mkF m 125 #[u0, u1, .val (.int gx), .val (.ref vb), u4, u5, .val (.int (((i2 / (100 : Int32)) * (100 : Int32)) - i2)), .val (.int (cpos + (-1 : Int32))), .val (.int ng), .val (.int (i2 / (100 : Int32))), .val (.int (i2 / (100 : Int32)))] [(.int (((i2 / (100 : Int32)) * (100 : Int32)) - i2)), (.ref gd), (.int (cpos + (-1 : Int32))), (.ref vb)])) rfl rfl (hb hby d23_125) _) ?_
        obtain ⟨cl40, Ar40, q40, S40, N40, H40, G40⟩ := id Fl_86_0
        have hin40 : ¬ ((cpos + (-1 : Int32)) < 0 ∨ cl40.slots.size ≤ ((cpos + (-1 : Int32))).toNatClampNeg) := inb_of S40 ⟨Dn35.1, Dn35.2.1⟩
        obtain ⟨T41, h41, X41, e41, W41, st41⟩ := stB X38 hx hZ e38 Ar40 (j := (cpos + (-1 : Int32))) hin40 (g := (mkF m 126 #[u0, u1, .val (.int gx), .val (.ref vb), u4, u5, .val (.int (((i2 / (100 : Int32)) * (100 : Int32)) - i2)), .val (.int (cpos + (-1 : Int32))), .val (.int ng), .val (.int (i2 / (100 : Int32))), .val (.int (i2 / (100 : Int32)))] [(.int (Int32.ofNat (48 + N % 100 % 10))), (.int (cpos + (-1 : Int32))), (.ref vb)])) rfl rfl (hb hby d23_126)
        refine own_go st41 ?_
        have le_41 : hl_86.size ≤ h41.size := Nat.le_of_eq W41.size.symm
        have K41 : Keep h0 h41 [vb] := Keep.wr Kl_86 W41 (Or.inl (List.mem_of_getElem? (i := 0) rfl))
        have N41 := Fr.snoc X41 Nl_86 gvb
        have V41 : Arv Z h41 vb kv .byte cp ((us ++ (List.replicate kk (Value.int (0 : Int32)) ++ acc)).set ((cpos + (-1 : Int32))).toNatClampNeg (.int (Int32.ofNat (48 + N % 100 % 10)).toInt8.toInt32)) (.int (0 : Int32)) := Arv.set Ar40 q40 S40 N40 H40 G40 (fits_nar_byte _) W41 ((cpos + (-1 : Int32))).toNatClampNeg rfl (by rw [Dn35.2.2.1]; simp only [List.length_append, List.length_replicate]; omega)
        have Vs42 : Arv Z h41 vb kv .byte cp (us ++ (List.replicate (kk - 1) (Value.int (0 : Int32)) ++ ((own_dig (N % 100 % 10)) :: acc))) (.int (0 : Int32)) := by have q := V41; rw [own_set (by omega) Dn35.2.2.1] at q; exact q
        have Cc43 : ((us.length + (kk - 1) + (((own_dig (N % 100 % 10)) :: acc)).length : Nat) : Int) ≤ cp.toInt := by have q := hcc; (try simp only [List.length_cons] at q ⊢); omega
        have Dn44 := own_dn (al := (((own_dig (N % 100 % 10)) :: acc)).length) Dn35.2.2.2 (show 0 < (kk - 1) by omega) (by have q := Cc43; (try simp only [List.length_cons] at q ⊢); omega)
        show ∃ t o, Steps p.tables e below (T41.setTop (mkF m 127 #[u0, u1, .val (.int gx), .val (.ref vb), u4, u5, .val (.int (((i2 / (100 : Int32)) * (100 : Int32)) - i2)), .val (.int (cpos + (-1 : Int32))), .val (.int ng), .val (.int (i2 / (100 : Int32))), .val (.int (i2 / (100 : Int32)))] [])) t ∧ _
        refine own_go (fun _ => XS.aloadN X41.here hx rfl (hb hby d23_127) rfl rfl) ?_
        refine own_go (fun _ => XS.iinc X41.here hx rfl (hb hby d23_128) rfl (l' := #[u0, u1, .val (.int gx), .val (.ref vb), u4, u5, .val (.int (((i2 / (100 : Int32)) * (100 : Int32)) - i2)), .val (.int ((cpos + (-1 : Int32)) + (-1 : Int32))), .val (.int ng), .val (.int (i2 / (100 : Int32))), .val (.int (i2 / (100 : Int32)))]) rfl) ?_
        refine own_go (fun _ => XS.iload X41.here hx rfl (hb hby d23_131) rfl) ?_
        have F45 := (Old.wr OLDl_86 W41 gvb)
        obtain ⟨T46, X46, e46, st46⟩ := getS2 X41 hx hZ hown (host := "") (Or.inl w_150) Via.refl e41 (Sta.ext F45.2 P3) (g := (mkF m 133 #[u0, u1, .val (.int gx), .val (.ref vb), u4, u5, .val (.int (((i2 / (100 : Int32)) * (100 : Int32)) - i2)), .val (.int ((cpos + (-1 : Int32)) + (-1 : Int32))), .val (.int ng), .val (.int (i2 / (100 : Int32))), .val (.int (i2 / (100 : Int32)))] [(.int ((cpos + (-1 : Int32)) + (-1 : Int32))), (.ref vb)])) rfl (hb hby d23_133)
        refine own_go st46 ?_
        refine own_go (fun _ => XS.iload X46.here hx rfl (hb hby d23_136) rfl) ?_
        obtain ⟨cl47, Ar47, q47, S47, N47, H47, G47⟩ := id (Arv.ext P5 F45.2)
        have hin47 : ¬ ((((i2 / (100 : Int32)) * (100 : Int32)) - i2) < 0 ∨ cl47.slots.size ≤ ((((i2 / (100 : Int32)) * (100 : Int32)) - i2)).toNatClampNeg) := inb_of S47 (own_in100 hrm (Nat.mod_lt _ (by decide)))
        have hat47 : cl47.slots[((((i2 / (100 : Int32)) * (100 : Int32)) - i2)).toNatClampNeg]? = some (.int (Int32.ofNat (48 + N % 100 / 10))) := Has.at H47 hin47 (own_tens_at hrm (Nat.mod_lt _ (by decide)))
        refine own_go (fun _ => X46.baloadBytes hx (j := (((i2 / (100 : Int32)) * (100 : Int32)) - i2)) (v := (.int (Int32.ofNat (48 + N % 100 / 10)))) (by rw [e46]; exact Ar47.1) (State.isArrayOf_alike hZ.alike Ar47.2.1) Ar47.2.2 hin47 hat47 (g := (mkF m 138 #[u0, u1, .val (.int gx), .val (.ref vb), u4, u5, .val (.int (((i2 / (100 : Int32)) * (100 : Int32)) - i2)), .val (.int ((cpos + (-1 : Int32)) + (-1 : Int32))), .val (.int ng), .val (.int (i2 / (100 : Int32))), .val (.int (i2 / (100 : Int32)))] [(.int (((i2 / (100 : Int32)) * (100 : Int32)) - i2)), (.ref ge), (.int ((cpos + (-1 : Int32)) + (-1 : Int32))), (.ref vb)])) rfl rfl (hb hby d23_138) _) ?_
        obtain ⟨cl48, Ar48, q48, S48, N48, H48, G48⟩ := id Vs42
        have hin48 : ¬ (((cpos + (-1 : Int32)) + (-1 : Int32)) < 0 ∨ cl48.slots.size ≤ (((cpos + (-1 : Int32)) + (-1 : Int32))).toNatClampNeg) := inb_of S48 ⟨Dn44.1, Dn44.2.1⟩
        obtain ⟨T49, h49, X49, e49, W49, st49⟩ := stB X46 hx hZ e46 Ar48 (j := ((cpos + (-1 : Int32)) + (-1 : Int32))) hin48 (g := (mkF m 139 #[u0, u1, .val (.int gx), .val (.ref vb), u4, u5, .val (.int (((i2 / (100 : Int32)) * (100 : Int32)) - i2)), .val (.int ((cpos + (-1 : Int32)) + (-1 : Int32))), .val (.int ng), .val (.int (i2 / (100 : Int32))), .val (.int (i2 / (100 : Int32)))] [(.int (Int32.ofNat (48 + N % 100 / 10))), (.int ((cpos + (-1 : Int32)) + (-1 : Int32))), (.ref vb)])) rfl rfl (hb hby d23_139)
        refine own_go st49 ?_
        have le_49 : h41.size ≤ h49.size := Nat.le_of_eq W49.size.symm
        have K49 : Keep h0 h49 [vb] := Keep.wr K41 W49 (Or.inl (List.mem_of_getElem? (i := 0) rfl))
        have N49 := Fr.snoc X49 N41 gvb
        have V49 : Arv Z h49 vb kv .byte cp ((us ++ (List.replicate (kk - 1) (Value.int (0 : Int32)) ++ ((own_dig (N % 100 % 10)) :: acc))).set (((cpos + (-1 : Int32)) + (-1 : Int32))).toNatClampNeg (.int (Int32.ofNat (48 + N % 100 / 10)).toInt8.toInt32)) (.int (0 : Int32)) := Arv.set Ar48 q48 S48 N48 H48 G48 (fits_nar_byte _) W49 (((cpos + (-1 : Int32)) + (-1 : Int32))).toNatClampNeg rfl (by rw [Dn44.2.2.1]; simp only [List.length_append, List.length_replicate]; omega)
        have Vs50 : Arv Z h49 vb kv .byte cp (us ++ (List.replicate ((kk - 1) - 1) (Value.int (0 : Int32)) ++ ((own_dig (N % 100 / 10)) :: ((own_dig (N % 100 % 10)) :: acc)))) (.int (0 : Int32)) := by have q := V49; rw [own_set (by omega) Dn44.2.2.1] at q; exact q
        have Cc51 : ((us.length + ((kk - 1) - 1) + (((own_dig (N % 100 / 10)) :: ((own_dig (N % 100 % 10)) :: acc))).length : Nat) : Int) ≤ cp.toInt := by have q := hcc; (try simp only [List.length_cons] at q ⊢); omega
        refine own_go (fun _ => XS.goto X49.here hx rfl (pc0 := 140) (pc' := 86) rfl (hb hby d23_140) (by decide) (by decide)) ?_
        have F52 := (Old.wr F45 W49 gvb)
        show ∃ t o, Steps p.tables e below (T49.setTop (mkF m 86 #[u0, u1, .val (.int gx), .val (.ref vb), u4, u5, .val (.int (((i2 / (100 : Int32)) * (100 : Int32)) - i2)), .val (.int ((cpos + (-1 : Int32)) + (-1 : Int32))), .val (.int ng), .val (.int (i2 / (100 : Int32))), .val (.int (i2 / (100 : Int32)))] [])) t ∧ _
        exact ih86 _ (by omega) (N / 100) (i2 / (100 : Int32)) ((cpos + (-1 : Int32)) + (-1 : Int32)) ng ((kk - 1) - 1) ((own_dig (N % 100 / 10)) :: ((own_dig (N % 100 % 10)) :: acc)) (u0) (u1) (u4) (u5) (.val (.int (((i2 / (100 : Int32)) * (100 : Int32)) - i2))) (.val (.int (i2 / (100 : Int32)))) _ _ _ X49 e49 N49 K49 F52 Vs50 hdv (by omega) Dn44.2.2.2 Cc51 (by rw [← hW, own_dg2 h100, List.append_assoc]; rfl) (Or.inr ⟨_, rfl⟩) (Or.inr ⟨_, rfl⟩) rfl
  have loop24 : ∀ (r : Nat) (N : Nat) (ii : Int64) (cpos : Int32) (ng : Int32) (kk : Nat) (acc : List Value) (u4 : Slot) (u5 : Slot) (u6 : Slot) (Tl_24 : State) (hl_24 : Heap) (Ll_24 : List Loc) (Xl_24 : Stand p l e ({ frames := 0, cells := 0, slots := 0, locals := 0 } : Room) s m #[(.long xl), (.int gx), (.ref vb)] below meth c Tl_24 Ll_24 0 0) (el_24 : Tl_24.heap = hl_24) (Nl_24 : Fr n0 Ll_24) (Kl_24 : Keep h0 hl_24 [vb]) (OLDl_24 : Old Z n0 hl_24) (Fl_24_0 : Arv Z hl_24 vb kv .byte cp (us ++ (List.replicate kk (Value.int (0 : Int32)) ++ acc)) (.int (0 : Int32))) (hN : ii.toInt = -(N : Int)) (hk : kk = (own_sg ng).length + (own_dg N).length) (hp : cpos.toInt = ((us.length + kk : Nat) : Int)) (hcc : ((us.length + kk + acc.length : Nat) : Int) ≤ cp.toInt) (hW : own_sg ng ++ (own_dg N ++ acc) = own_dec xl) (hu_u6 : u6 = .unset ∨ ∃ w : Int32, u6 = .val (.int w)) (hu_u4 : (u4 = .unset ∧ u5 = .unset) ∨ ∃ w : Int64, u4 = .val (.long w) ∧ u5 = .second) (hr : N = r), ∃ t o, Steps p.tables e below (Tl_24.setTop (mkF m 24 #[.val (.long ii), .second, .val (.int gx), .val (.ref vb), u4, u5, u6, .val (.int cpos), .val (.int ng), .unset, .unset] [])) t ∧ P t o := by
    intro r
    induction r using Nat.strongRecOn with
    | _ r ih24 =>
      intro N ii cpos ng kk acc u4 u5 u6 Tl_24 hl_24 Ll_24 Xl_24 el_24 Nl_24 Kl_24 OLDl_24 Fl_24_0 hN hk hp hcc hW hu_u6 hu_u4 hr
      have lel_24 : h0.size ≤ hl_24.size := Kl_24.1
      have ltl24_vb : vb < hl_24.size := Fl_24_0.lt
      show ∃ t o, Steps p.tables e below (Tl_24.setTop (mkF m 24 #[.val (.long ii), .second, .val (.int gx), .val (.ref vb), u4, u5, u6, .val (.int cpos), .val (.int ng), .unset, .unset] [])) t ∧ _
      refine own_go (fun _ => XS.lloadN Xl_24.here hx rfl (hb hby d23_24) rfl) ?_
      refine own_go (fun _ => Xl_24.ldc2Long hx hown (mvT hZ (hw _ (List.mem_of_getElem? (i := 143) rfl))) (g := (mkF m 25 #[.val (.long ii), .second, .val (.int gx), .val (.ref vb), u4, u5, u6, .val (.int cpos), .val (.int ng), .unset, .unset] [(.long ii)])) rfl (hb hby d23_25) _) ?_
      refine own_go (fun _ => XS.lcmp Xl_24.here hx rfl (hb hby d23_28) rfl) ?_
      show ∃ t o, Steps p.tables e below (Tl_24.setTop (mkF m 29 #[.val (.long ii), .second, .val (.int gx), .val (.ref vb), u4, u5, u6, .val (.int cpos), .val (.int ng), .unset, .unset] [(.int (lcmpW ii (-2147483648 : Int64)))])) t ∧ _
      by_cases hc53 : (-2147483648 : Int64) < ii
      · refine own_go (fun _ => XS.ifYes Xl_24.here hx rfl (pc0 := 29) (pc' := 82) rfl (hb hby d23_29) rfl ((if0 _ _).trans (tlt ((lw_gt _ _).mpr hc53)).2.2.1) (by decide) (by decide)) ?_
        refine own_go (fun _ => XS.lloadN Xl_24.here hx rfl (hb hby d23_82) rfl) ?_
        refine own_go (fun _ => XS.l2i Xl_24.here hx rfl (hb hby d23_83) rfl) ?_
        refine own_go (fun _ => XS.istore Xl_24.here hx rfl (hb hby d23_84) rfl (l' := #[.val (.long ii), .second, .val (.int gx), .val (.ref vb), u4, u5, u6, .val (.int cpos), .val (.int ng), .unset, .val (.int (ii.toInt32))]) rfl) ?_
        show ∃ t o, Steps p.tables e below (Tl_24.setTop (mkF m 86 #[.val (.long ii), .second, .val (.int gx), .val (.ref vb), u4, u5, u6, .val (.int cpos), .val (.int ng), .unset, .val (.int (ii.toInt32))] [])) t ∧ _
        exact loop86 _ N (ii.toInt32) cpos ng kk acc (.val (.long ii)) (.second) (u4) (u5) (u6) (.unset) _ _ _ Xl_24 el_24 Nl_24 Kl_24 OLDl_24 Fl_24_0 (own_l2 hN hc53) hk hp hcc hW hu_u6 (Or.inl rfl) rfl
      · refine own_go (fun _ => XS.ifNo Xl_24.here hx rfl (hb hby d23_29) rfl ((if0 _ _).trans (flt (mt (lw_gt _ _).mp hc53)).2.2.1)) ?_
        obtain ⟨h100, hdv, hrm⟩ := own_l1 hN hc53
        have hl2 : (own_dg N).length = (own_dg (N / 100)).length + 2 := by rw [own_dg2 h100, List.length_append]; rfl
        have hgp := own_dg_pos (N / 100)
        have Dn54 := own_dn (al := (acc).length) hp (show 0 < kk by omega) (by have q := hcc; (try simp only [List.length_cons] at q ⊢); omega)
        refine own_go (fun _ => XS.lloadN Xl_24.here hx rfl (hb hby d23_32) rfl) ?_
        refine own_go (fun _ => Xl_24.ldc2Long hx hown (mvT hZ w_149) (g := (mkF m 33 #[.val (.long ii), .second, .val (.int gx), .val (.ref vb), u4, u5, u6, .val (.int cpos), .val (.int ng), .unset, .unset] [(.long ii)])) rfl (hb hby d23_33) _) ?_
        refine own_go (fun _ => XS.ldiv Xl_24.here hx rfl (hb hby d23_36) rfl (by decide)) ?_
        have hs55 : storeLocals #[.val (.long ii), .second, .val (.int gx), .val (.ref vb), u4, u5, u6, .val (.int cpos), .val (.int ng), .unset, .unset] 4 (.long (ii / (100 : Int64))) = some #[.val (.long ii), .second, .val (.int gx), .val (.ref vb), .val (.long (ii / (100 : Int64))), .second, u6, .val (.int cpos), .val (.int ng), .unset, .unset] := by rcases hu_u4 with ⟨rfl, rfl⟩ | ⟨w, rfl, rfl⟩ <;> rfl
        refine own_go (fun _ => XS.lstore Xl_24.here hx rfl (hb hby d23_37) rfl (l' := #[.val (.long ii), .second, .val (.int gx), .val (.ref vb), .val (.long (ii / (100 : Int64))), .second, u6, .val (.int cpos), .val (.int ng), .unset, .unset]) hs55) ?_
        refine own_go (fun _ => XS.lload Xl_24.here hx rfl (hb hby d23_39) rfl) ?_
        refine own_go (fun _ => Xl_24.ldc2Long hx hown (mvT hZ w_149) (g := (mkF m 41 #[.val (.long ii), .second, .val (.int gx), .val (.ref vb), .val (.long (ii / (100 : Int64))), .second, u6, .val (.int cpos), .val (.int ng), .unset, .unset] [(.long (ii / (100 : Int64)))])) rfl (hb hby d23_41) _) ?_
        refine own_go (fun _ => XS.lmul Xl_24.here hx rfl (hb hby d23_44) rfl) ?_
        refine own_go (fun _ => XS.lloadN Xl_24.here hx rfl (hb hby d23_45) rfl) ?_
        refine own_go (fun _ => XS.lsub Xl_24.here hx rfl (hb hby d23_46) rfl) ?_
        show ∃ t o, Steps p.tables e below (Tl_24.setTop (mkF m 47 #[.val (.long ii), .second, .val (.int gx), .val (.ref vb), .val (.long (ii / (100 : Int64))), .second, u6, .val (.int cpos), .val (.int ng), .unset, .unset] [(.long (((ii / (100 : Int64)) * (100 : Int64)) - ii))])) t ∧ _
        refine own_go (fun _ => XS.l2i Xl_24.here hx rfl (hb hby d23_47) rfl) ?_
        have hs56 : storeLocals #[.val (.long ii), .second, .val (.int gx), .val (.ref vb), .val (.long (ii / (100 : Int64))), .second, u6, .val (.int cpos), .val (.int ng), .unset, .unset] 6 (.int ((((ii / (100 : Int64)) * (100 : Int64)) - ii).toInt32)) = some #[.val (.long ii), .second, .val (.int gx), .val (.ref vb), .val (.long (ii / (100 : Int64))), .second, .val (.int ((((ii / (100 : Int64)) * (100 : Int64)) - ii).toInt32)), .val (.int cpos), .val (.int ng), .unset, .unset] := by rcases hu_u6 with rfl | ⟨w, rfl⟩ <;> rfl
        refine own_go (fun _ => XS.istore Xl_24.here hx rfl (hb hby d23_48) rfl (l' := #[.val (.long ii), .second, .val (.int gx), .val (.ref vb), .val (.long (ii / (100 : Int64))), .second, .val (.int ((((ii / (100 : Int64)) * (100 : Int64)) - ii).toInt32)), .val (.int cpos), .val (.int ng), .unset, .unset]) hs56) ?_
        refine own_go (fun _ => XS.lload Xl_24.here hx rfl (hb hby d23_50) rfl) ?_
        refine own_go (fun _ => XS.lstoreN Xl_24.here hx rfl (hb hby d23_52) rfl (l' := #[.val (.long (ii / (100 : Int64))), .second, .val (.int gx), .val (.ref vb), .val (.long (ii / (100 : Int64))), .second, .val (.int ((((ii / (100 : Int64)) * (100 : Int64)) - ii).toInt32)), .val (.int cpos), .val (.int ng), .unset, .unset]) rfl) ?_
        refine own_go (fun _ => XS.aloadN Xl_24.here hx rfl (hb hby d23_53) rfl rfl) ?_
        refine own_go (fun _ => XS.iinc Xl_24.here hx rfl (hb hby d23_54) rfl (l' := #[.val (.long (ii / (100 : Int64))), .second, .val (.int gx), .val (.ref vb), .val (.long (ii / (100 : Int64))), .second, .val (.int ((((ii / (100 : Int64)) * (100 : Int64)) - ii).toInt32)), .val (.int (cpos + (-1 : Int32))), .val (.int ng), .unset, .unset]) rfl) ?_
        refine own_go (fun _ => XS.iload Xl_24.here hx rfl (hb hby d23_57) rfl) ?_
        obtain ⟨T57, X57, e57, st57⟩ := getS2 Xl_24 hx hZ hown (host := "") (Or.inl w_144) Via.refl el_24 (Sta.ext OLDl_24.2 P2) (g := (mkF m 59 #[.val (.long (ii / (100 : Int64))), .second, .val (.int gx), .val (.ref vb), .val (.long (ii / (100 : Int64))), .second, .val (.int ((((ii / (100 : Int64)) * (100 : Int64)) - ii).toInt32)), .val (.int (cpos + (-1 : Int32))), .val (.int ng), .unset, .unset] [(.int (cpos + (-1 : Int32))), (.ref vb)])) rfl (hb hby d23_59)
        refine own_go st57 ?_
        refine own_go (fun _ => XS.iload X57.here hx rfl (hb hby d23_62) rfl) ?_
        obtain ⟨cl58, Ar58, q58, S58, N58, H58, G58⟩ := id (Arv.ext P4 OLDl_24.2)
        have hin58 : ¬ (((((ii / (100 : Int64)) * (100 : Int64)) - ii).toInt32) < 0 ∨ cl58.slots.size ≤ (((((ii / (100 : Int64)) * (100 : Int64)) - ii).toInt32)).toNatClampNeg) := inb_of S58 (own_in100 hrm (Nat.mod_lt _ (by decide)))
        have hat58 : cl58.slots[(((((ii / (100 : Int64)) * (100 : Int64)) - ii).toInt32)).toNatClampNeg]? = some (.int (Int32.ofNat (48 + N % 100 % 10))) := Has.at H58 hin58 (own_ones_at hrm (Nat.mod_lt _ (by decide)))
        refine own_go (fun _ => X57.baloadBytes hx (j := ((((ii / (100 : Int64)) * (100 : Int64)) - ii).toInt32)) (v := (.int (Int32.ofNat (48 + N % 100 % 10)))) (by rw [e57]; exact Ar58.1) (State.isArrayOf_alike hZ.alike Ar58.2.1) Ar58.2.2 hin58 hat58 (g := (mkF m 64 #[.val (.long (ii / (100 : Int64))), .second, .val (.int gx), .val (.ref vb), .val (.long (ii / (100 : Int64))), .second, .val (.int ((((ii / (100 : Int64)) * (100 : Int64)) - ii).toInt32)), .val (.int (cpos + (-1 : Int32))), .val (.int ng), .unset, .unset] [(.int ((((ii / (100 : Int64)) * (100 : Int64)) - ii).toInt32)), (.ref gd), (.int (cpos + (-1 : Int32))), (.ref vb)])) rfl rfl (hb hby d23_64) _) ?_
        show ∃ t o, Steps p.tables e below (T57.setTop (mkF m 65 #[.val (.long (ii / (100 : Int64))), .second, .val (.int gx), .val (.ref vb), .val (.long (ii / (100 : Int64))), .second, .val (.int ((((ii / (100 : Int64)) * (100 : Int64)) - ii).toInt32)), .val (.int (cpos + (-1 : Int32))), .val (.int ng), .unset, .unset] [(.int (Int32.ofNat (48 + N % 100 % 10))), (.int (cpos + (-1 : Int32))), (.ref vb)])) t ∧ _
        obtain ⟨cl59, Ar59, q59, S59, N59, H59, G59⟩ := id Fl_24_0
        have hin59 : ¬ ((cpos + (-1 : Int32)) < 0 ∨ cl59.slots.size ≤ ((cpos + (-1 : Int32))).toNatClampNeg) := inb_of S59 ⟨Dn54.1, Dn54.2.1⟩
        obtain ⟨T60, h60, X60, e60, W60, st60⟩ := stB X57 hx hZ e57 Ar59 (j := (cpos + (-1 : Int32))) hin59 (g := (mkF m 65 #[.val (.long (ii / (100 : Int64))), .second, .val (.int gx), .val (.ref vb), .val (.long (ii / (100 : Int64))), .second, .val (.int ((((ii / (100 : Int64)) * (100 : Int64)) - ii).toInt32)), .val (.int (cpos + (-1 : Int32))), .val (.int ng), .unset, .unset] [(.int (Int32.ofNat (48 + N % 100 % 10))), (.int (cpos + (-1 : Int32))), (.ref vb)])) rfl rfl (hb hby d23_65)
        refine own_go st60 ?_
        have le_60 : hl_24.size ≤ h60.size := Nat.le_of_eq W60.size.symm
        have K60 : Keep h0 h60 [vb] := Keep.wr Kl_24 W60 (Or.inl (List.mem_of_getElem? (i := 0) rfl))
        have N60 := Fr.snoc X60 Nl_24 gvb
        have V60 : Arv Z h60 vb kv .byte cp ((us ++ (List.replicate kk (Value.int (0 : Int32)) ++ acc)).set ((cpos + (-1 : Int32))).toNatClampNeg (.int (Int32.ofNat (48 + N % 100 % 10)).toInt8.toInt32)) (.int (0 : Int32)) := Arv.set Ar59 q59 S59 N59 H59 G59 (fits_nar_byte _) W60 ((cpos + (-1 : Int32))).toNatClampNeg rfl (by rw [Dn54.2.2.1]; simp only [List.length_append, List.length_replicate]; omega)
        have Vs61 : Arv Z h60 vb kv .byte cp (us ++ (List.replicate (kk - 1) (Value.int (0 : Int32)) ++ ((own_dig (N % 100 % 10)) :: acc))) (.int (0 : Int32)) := by have q := V60; rw [own_set (by omega) Dn54.2.2.1] at q; exact q
        have Cc62 : ((us.length + (kk - 1) + (((own_dig (N % 100 % 10)) :: acc)).length : Nat) : Int) ≤ cp.toInt := by have q := hcc; (try simp only [List.length_cons] at q ⊢); omega
        have Dn63 := own_dn (al := (((own_dig (N % 100 % 10)) :: acc)).length) Dn54.2.2.2 (show 0 < (kk - 1) by omega) (by have q := Cc62; (try simp only [List.length_cons] at q ⊢); omega)
        refine own_go (fun _ => XS.aloadN X60.here hx rfl (hb hby d23_66) rfl rfl) ?_
        refine own_go (fun _ => XS.iinc X60.here hx rfl (hb hby d23_67) rfl (l' := #[.val (.long (ii / (100 : Int64))), .second, .val (.int gx), .val (.ref vb), .val (.long (ii / (100 : Int64))), .second, .val (.int ((((ii / (100 : Int64)) * (100 : Int64)) - ii).toInt32)), .val (.int ((cpos + (-1 : Int32)) + (-1 : Int32))), .val (.int ng), .unset, .unset]) rfl) ?_
        refine own_go (fun _ => XS.iload X60.here hx rfl (hb hby d23_70) rfl) ?_
        have F64 := (Old.wr OLDl_24 W60 gvb)
        obtain ⟨T65, X65, e65, st65⟩ := getS2 X60 hx hZ hown (host := "") (Or.inl w_150) Via.refl e60 (Sta.ext F64.2 P3) (g := (mkF m 72 #[.val (.long (ii / (100 : Int64))), .second, .val (.int gx), .val (.ref vb), .val (.long (ii / (100 : Int64))), .second, .val (.int ((((ii / (100 : Int64)) * (100 : Int64)) - ii).toInt32)), .val (.int ((cpos + (-1 : Int32)) + (-1 : Int32))), .val (.int ng), .unset, .unset] [(.int ((cpos + (-1 : Int32)) + (-1 : Int32))), (.ref vb)])) rfl (hb hby d23_72)
        refine own_go st65 ?_
        refine own_go (fun _ => XS.iload X65.here hx rfl (hb hby d23_75) rfl) ?_
        obtain ⟨cl66, Ar66, q66, S66, N66, H66, G66⟩ := id (Arv.ext P5 F64.2)
        have hin66 : ¬ (((((ii / (100 : Int64)) * (100 : Int64)) - ii).toInt32) < 0 ∨ cl66.slots.size ≤ (((((ii / (100 : Int64)) * (100 : Int64)) - ii).toInt32)).toNatClampNeg) := inb_of S66 (own_in100 hrm (Nat.mod_lt _ (by decide)))
        have hat66 : cl66.slots[(((((ii / (100 : Int64)) * (100 : Int64)) - ii).toInt32)).toNatClampNeg]? = some (.int (Int32.ofNat (48 + N % 100 / 10))) := Has.at H66 hin66 (own_tens_at hrm (Nat.mod_lt _ (by decide)))
        refine own_go (fun _ => X65.baloadBytes hx (j := ((((ii / (100 : Int64)) * (100 : Int64)) - ii).toInt32)) (v := (.int (Int32.ofNat (48 + N % 100 / 10)))) (by rw [e65]; exact Ar66.1) (State.isArrayOf_alike hZ.alike Ar66.2.1) Ar66.2.2 hin66 hat66 (g := (mkF m 77 #[.val (.long (ii / (100 : Int64))), .second, .val (.int gx), .val (.ref vb), .val (.long (ii / (100 : Int64))), .second, .val (.int ((((ii / (100 : Int64)) * (100 : Int64)) - ii).toInt32)), .val (.int ((cpos + (-1 : Int32)) + (-1 : Int32))), .val (.int ng), .unset, .unset] [(.int ((((ii / (100 : Int64)) * (100 : Int64)) - ii).toInt32)), (.ref ge), (.int ((cpos + (-1 : Int32)) + (-1 : Int32))), (.ref vb)])) rfl rfl (hb hby d23_77) _) ?_
        obtain ⟨cl67, Ar67, q67, S67, N67, H67, G67⟩ := id Vs61
        have hin67 : ¬ (((cpos + (-1 : Int32)) + (-1 : Int32)) < 0 ∨ cl67.slots.size ≤ (((cpos + (-1 : Int32)) + (-1 : Int32))).toNatClampNeg) := inb_of S67 ⟨Dn63.1, Dn63.2.1⟩
        obtain ⟨T68, h68, X68, e68, W68, st68⟩ := stB X65 hx hZ e65 Ar67 (j := ((cpos + (-1 : Int32)) + (-1 : Int32))) hin67 (g := (mkF m 78 #[.val (.long (ii / (100 : Int64))), .second, .val (.int gx), .val (.ref vb), .val (.long (ii / (100 : Int64))), .second, .val (.int ((((ii / (100 : Int64)) * (100 : Int64)) - ii).toInt32)), .val (.int ((cpos + (-1 : Int32)) + (-1 : Int32))), .val (.int ng), .unset, .unset] [(.int (Int32.ofNat (48 + N % 100 / 10))), (.int ((cpos + (-1 : Int32)) + (-1 : Int32))), (.ref vb)])) rfl rfl (hb hby d23_78)
        refine own_go st68 ?_
        have le_68 : h60.size ≤ h68.size := Nat.le_of_eq W68.size.symm
        have K68 : Keep h0 h68 [vb] := Keep.wr K60 W68 (Or.inl (List.mem_of_getElem? (i := 0) rfl))
        have N68 := Fr.snoc X68 N60 gvb
        have V68 : Arv Z h68 vb kv .byte cp ((us ++ (List.replicate (kk - 1) (Value.int (0 : Int32)) ++ ((own_dig (N % 100 % 10)) :: acc))).set (((cpos + (-1 : Int32)) + (-1 : Int32))).toNatClampNeg (.int (Int32.ofNat (48 + N % 100 / 10)).toInt8.toInt32)) (.int (0 : Int32)) := Arv.set Ar67 q67 S67 N67 H67 G67 (fits_nar_byte _) W68 (((cpos + (-1 : Int32)) + (-1 : Int32))).toNatClampNeg rfl (by rw [Dn63.2.2.1]; simp only [List.length_append, List.length_replicate]; omega)
        have Vs69 : Arv Z h68 vb kv .byte cp (us ++ (List.replicate ((kk - 1) - 1) (Value.int (0 : Int32)) ++ ((own_dig (N % 100 / 10)) :: ((own_dig (N % 100 % 10)) :: acc)))) (.int (0 : Int32)) := by have q := V68; rw [own_set (by omega) Dn63.2.2.1] at q; exact q
        have Cc70 : ((us.length + ((kk - 1) - 1) + (((own_dig (N % 100 / 10)) :: ((own_dig (N % 100 % 10)) :: acc))).length : Nat) : Int) ≤ cp.toInt := by have q := hcc; (try simp only [List.length_cons] at q ⊢); omega
        refine own_go (fun _ => XS.goto X68.here hx rfl (pc0 := 79) (pc' := 24) rfl (hb hby d23_79) (by decide) (by decide)) ?_
        have F71 := (Old.wr F64 W68 gvb)
        show ∃ t o, Steps p.tables e below (T68.setTop (mkF m 24 #[.val (.long (ii / (100 : Int64))), .second, .val (.int gx), .val (.ref vb), .val (.long (ii / (100 : Int64))), .second, .val (.int ((((ii / (100 : Int64)) * (100 : Int64)) - ii).toInt32)), .val (.int ((cpos + (-1 : Int32)) + (-1 : Int32))), .val (.int ng), .unset, .unset] [])) t ∧ _
        exact ih24 _ (by omega) (N / 100) (ii / (100 : Int64)) ((cpos + (-1 : Int32)) + (-1 : Int32)) ng ((kk - 1) - 1) ((own_dig (N % 100 / 10)) :: ((own_dig (N % 100 % 10)) :: acc)) (.val (.long (ii / (100 : Int64)))) (.second) (.val (.int ((((ii / (100 : Int64)) * (100 : Int64)) - ii).toInt32))) _ _ _ X68 e68 N68 K68 F71 Vs69 hdv (by omega) Dn63.2.2.2 Cc70 (by rw [← hW, own_dg2 h100, List.append_assoc]; rfl) (Or.inr ⟨_, rfl⟩) (Or.inr ⟨_, rfl, rfl⟩) rfl
  show ∃ t o, Steps p.tables e below (s₁.setTop (mkF m 0 #[.val (.long xl), .second, .val (.int gx), .val (.ref vb), .unset, .unset, .unset, .unset, .unset, .unset, .unset] [])) t ∧ _
  refine own_go (fun _ => XS.iloadN X0.here hx rfl (hb hby d23_0) rfl) ?_
  refine own_go (fun _ => XS.istore X0.here hx rfl (hb hby d23_1) rfl (l' := #[.val (.long xl), .second, .val (.int gx), .val (.ref vb), .unset, .unset, .unset, .val (.int gx), .unset, .unset, .unset]) rfl) ?_
  refine own_go (fun _ => XS.lloadN X0.here hx rfl (hb hby d23_3) rfl) ?_
  refine own_go (fun _ => XS.lconst X0.here hx rfl (hb hby d23_4)) ?_
  refine own_go (fun _ => XS.lcmp X0.here hx rfl (hb hby d23_5) rfl) ?_
  show ∃ t o, Steps p.tables e below (s₁.setTop (mkF m 6 #[.val (.long xl), .second, .val (.int gx), .val (.ref vb), .unset, .unset, .unset, .val (.int gx), .unset, .unset, .unset] [(.int (lcmpW xl (0 : Int64)))])) t ∧ _
  by_cases hc72 : xl < (0 : Int64)
  · refine own_go (fun _ => XS.ifNo X0.here hx rfl (hb hby d23_6) rfl ((if0 _ _).trans (tlt ((lw_lt _ _).mpr hc72)).2.1)) ?_
    refine own_go (fun _ => XS.iconst X0.here hx rfl (hb hby d23_9)) ?_
    refine own_go (fun _ => XS.goto X0.here hx rfl (pc0 := 10) (pc' := 14) rfl (hb hby d23_10) (by decide) (by decide)) ?_
    refine own_go (fun _ => XS.istore X0.here hx rfl (hb hby d23_14) rfl (l' := #[.val (.long xl), .second, .val (.int gx), .val (.ref vb), .unset, .unset, .unset, .val (.int gx), .val (.int (1 : Int32)), .unset, .unset]) rfl) ?_
    refine own_go (fun _ => XS.iload X0.here hx rfl (hb hby d23_16) rfl) ?_
    show ∃ t o, Steps p.tables e below (s₁.setTop (mkF m 18 #[.val (.long xl), .second, .val (.int gx), .val (.ref vb), .unset, .unset, .unset, .val (.int gx), .val (.int (1 : Int32)), .unset, .unset] [(.int (1 : Int32))])) t ∧ _
    refine own_go (fun _ => XS.ifYes X0.here hx rfl (pc0 := 18) (pc' := 24) rfl (hb hby d23_18) rfl ((if0 _ _).trans (feq (by decide : ¬ ((1 : Int32) = (0 : Int32)))).2) (by decide) (by decide)) ?_
    have hdq : own_dec xl = own_sg (1 : Int32) ++ own_dg xl.toInt.natAbs := by unfold own_dec; rw [if_pos hc72]
    have hdl : (own_dec xl).length = ((own_sg (1 : Int32)).length + (own_dg xl.toInt.natAbs).length) := by rw [hdq, List.length_append]
    have Vp : Arv Z h0 vb kv .byte cp (us ++ (List.replicate ((own_sg (1 : Int32)).length + (own_dg xl.toInt.natAbs).length) (Value.int (0 : Int32)) ++ [])) (.int (0 : Int32)) := by rw [List.append_nil]; exact Arv.pad P1 (pad_rep us (Value.int (0 : Int32)) ((own_sg (1 : Int32)).length + (own_dg xl.toInt.natAbs).length))
    show ∃ t o, Steps p.tables e below (s₁.setTop (mkF m 24 #[.val (.long xl), .second, .val (.int gx), .val (.ref vb), .unset, .unset, .unset, .val (.int gx), .val (.int (1 : Int32)), .unset, .unset] [])) t ∧ _
    exact loop24 _ xl.toInt.natAbs xl gx (1 : Int32) ((own_sg (1 : Int32)).length + (own_dg xl.toInt.natAbs).length) ([]) (.unset) (.unset) (.unset) _ _ _ X0 e0 N0 (Keep.refl h0 [vb]) OLD Vp (own_ss0 hc72).1 rfl (by rw [hgx, hdl]) (by have q := hroom; rw [hdl] at q; exact q) (by rw [List.append_nil, hdq]) (Or.inl rfl) (Or.inl ⟨rfl, rfl⟩) rfl
  · refine own_go (fun _ => XS.ifYes X0.here hx rfl (pc0 := 6) (pc' := 13) rfl (hb hby d23_6) rfl ((if0 _ _).trans (flt (mt (lw_lt _ _).mp hc72)).2.1) (by decide) (by decide)) ?_
    refine own_go (fun _ => XS.iconst X0.here hx rfl (hb hby d23_13)) ?_
    refine own_go (fun _ => XS.istore X0.here hx rfl (hb hby d23_14) rfl (l' := #[.val (.long xl), .second, .val (.int gx), .val (.ref vb), .unset, .unset, .unset, .val (.int gx), .val (.int (0 : Int32)), .unset, .unset]) rfl) ?_
    refine own_go (fun _ => XS.iload X0.here hx rfl (hb hby d23_16) rfl) ?_
    show ∃ t o, Steps p.tables e below (s₁.setTop (mkF m 18 #[.val (.long xl), .second, .val (.int gx), .val (.ref vb), .unset, .unset, .unset, .val (.int gx), .val (.int (0 : Int32)), .unset, .unset] [(.int (0 : Int32))])) t ∧ _
    refine own_go (fun _ => XS.ifNo X0.here hx rfl (hb hby d23_18) rfl ((if0 _ _).trans (teq (by decide : (0 : Int32) = (0 : Int32))).2)) ?_
    refine own_go (fun _ => XS.lloadN X0.here hx rfl (hb hby d23_21) rfl) ?_
    refine own_go (fun _ => XS.lneg X0.here hx rfl (hb hby d23_22) rfl) ?_
    refine own_go (fun _ => XS.lstoreN X0.here hx rfl (hb hby d23_23) rfl (l' := #[.val (.long (-xl)), .second, .val (.int gx), .val (.ref vb), .unset, .unset, .unset, .val (.int gx), .val (.int (0 : Int32)), .unset, .unset]) rfl) ?_
    have hdq : own_dec xl = own_sg (0 : Int32) ++ own_dg xl.toInt.natAbs := by unfold own_dec; rw [if_neg hc72]
    have hdl : (own_dec xl).length = ((own_sg (0 : Int32)).length + (own_dg xl.toInt.natAbs).length) := by rw [hdq, List.length_append]
    have Vp : Arv Z h0 vb kv .byte cp (us ++ (List.replicate ((own_sg (0 : Int32)).length + (own_dg xl.toInt.natAbs).length) (Value.int (0 : Int32)) ++ [])) (.int (0 : Int32)) := by rw [List.append_nil]; exact Arv.pad P1 (pad_rep us (Value.int (0 : Int32)) ((own_sg (0 : Int32)).length + (own_dg xl.toInt.natAbs).length))
    show ∃ t o, Steps p.tables e below (s₁.setTop (mkF m 24 #[.val (.long (-xl)), .second, .val (.int gx), .val (.ref vb), .unset, .unset, .unset, .val (.int gx), .val (.int (0 : Int32)), .unset, .unset] [])) t ∧ _
    exact loop24 _ xl.toInt.natAbs (-xl) gx (0 : Int32) ((own_sg (0 : Int32)).length + (own_dg xl.toInt.natAbs).length) ([]) (.unset) (.unset) (.unset) _ _ _ X0 e0 N0 (Keep.refl h0 [vb]) OLD Vp (own_ss1 hc72).1 rfl (by rw [hgx, hdl]) (by have q := hroom; rw [hdl] at q; exact q) (by rw [List.append_nil, hdq]) (Or.inl rfl) (Or.inl ⟨rfl, rfl⟩) rfl
theorem ef_rmABj (m : MethodId) (x0 : Nat) (x1 : Int64) : entryFrame m #[(.ref x0), (.long x1)] 5 = mkF m 0 #[.val (.ref x0), .val (.long x1), .second, .unset, .unset] [] := by first | (simp [entryFrame, mkF, argsToLocals, Value.category]; done) | rfl
theorem d20_0 : decode jdk_68_method_33_code 0 = .ok (.aload_n 0, 1) := by decide +kernel
theorem d20_1 : decode jdk_68_method_33_code 1 = .ok (.getfield 79, 3) := by decide +kernel
theorem d20_4 : decode jdk_68_method_33_code 4 = .ok (.istore_n 3, 1) := by decide +kernel
theorem d20_5 : decode jdk_68_method_33_code 5 = .ok (.iload_n 3, 1) := by decide +kernel
theorem d20_6 : decode jdk_68_method_33_code 6 = .ok (.lload_n 1, 1) := by decide +kernel
theorem d20_7 : decode jdk_68_method_33_code 7 = .ok (.invokestatic 254, 3) := by decide +kernel
theorem pd__28J_29I : parseMethodDescriptor "(J)I" = some ⟨[.long], some .int⟩ := by decide +kernel
theorem d20_10 : decode jdk_68_method_33_code 10 = .ok (.iadd, 1) := by decide +kernel
theorem d20_11 : decode jdk_68_method_33_code 11 = .ok (.istore 4, 2) := by decide +kernel
theorem d20_13 : decode jdk_68_method_33_code 13 = .ok (.aload_n 0, 1) := by decide +kernel
theorem d20_14 : decode jdk_68_method_33_code 14 = .ok (.iload 4, 2) := by decide +kernel
theorem d20_16 : decode jdk_68_method_33_code 16 = .ok (.invokevirtual 100, 3) := by decide +kernel
theorem d20_19 : decode jdk_68_method_33_code 19 = .ok (.aload_n 0, 1) := by decide +kernel
theorem d20_20 : decode jdk_68_method_33_code 20 = .ok (.invokevirtual 83, 3) := by decide +kernel
theorem d20_23 : decode jdk_68_method_33_code 23 = .ok (.ifCond .eq 17, 3) := by decide +kernel
theorem d20_26 : decode jdk_68_method_33_code 26 = .ok (.lload_n 1, 1) := by decide +kernel
theorem d20_27 : decode jdk_68_method_33_code 27 = .ok (.iload 4, 2) := by decide +kernel
theorem d20_29 : decode jdk_68_method_33_code 29 = .ok (.aload_n 0, 1) := by decide +kernel
theorem d20_30 : decode jdk_68_method_33_code 30 = .ok (.getfield 15, 3) := by decide +kernel
theorem d20_33 : decode jdk_68_method_33_code 33 = .ok (.invokestatic 259, 3) := by decide +kernel
theorem pd__28JI_5bB_29I : parseMethodDescriptor "(JI[B)I" = some ⟨[.long, .int, (.array .byte)], some .int⟩ := by decide +kernel
theorem d20_36 : decode jdk_68_method_33_code 36 = .ok (.pop, 1) := by decide +kernel
theorem d20_37 : decode jdk_68_method_33_code 37 = .ok (.goto 15, 3) := by decide +kernel
theorem d20_52 : decode jdk_68_method_33_code 52 = .ok (.aload_n 0, 1) := by decide +kernel
theorem d20_53 : decode jdk_68_method_33_code 53 = .ok (.iload 4, 2) := by decide +kernel
theorem d20_55 : decode jdk_68_method_33_code 55 = .ok (.putfield 79, 3) := by decide +kernel
theorem d20_58 : decode jdk_68_method_33_code 58 = .ok (.aload_n 0, 1) := by decide +kernel
theorem d20_59 : decode jdk_68_method_33_code 59 = .ok (.areturn, 1) := by decide +kernel
def Q_rmABj (Z : State) (sb : Nat) (vb : Nat) (kv : ClassId) (cp : Int32) (us : List Value) (cn : Int32) (xl : Int64) (zc : Int32) (gd : Nat) (ge : Nat) (kd : ClassId) (ke : ClassId) (h0 : Heap) (n0 : Nat) (v : Option Value) (h : Heap) (L : List Loc) : Prop := ∃ (vb2 : Nat), ∃ (kv2 : ClassId), ∃ (cp2 : Int32), ∃ (cn2 : Int32), v = some (.ref sb) ∧ Fr n0 L ∧ Keep h0 h [sb, vb] ∧ Exa Z h sb "java/lang/StringBuilder" ∧ Fld Z h sb "java/lang/AbstractStringBuilder" "value" "[B" (.ref vb2) ∧ Fld Z h sb "java/lang/AbstractStringBuilder" "coder" "B" (.int (0 : Int32)) ∧ Fld Z h sb "java/lang/AbstractStringBuilder" "count" "I" (.int cn2) ∧ Exa Z h vb2 "[B" ∧ Arv Z h vb2 kv2 .byte cp2 (us ++ own_dec xl) (.int (0 : Int32)) ∧ (own_cap (us ++ own_dec xl) cp2) ∧ (own_fit (us ++ own_dec xl) cn2) ∧ (vb2 = vb ∨ h0.size ≤ vb2) ∧ (sb ≠ vb2) ∧ (n0 ≤ vb2)
set_option maxRecDepth 65536 in
set_option maxHeartbeats 40000000 in
theorem rmABj (l : Launch) (Z : State) (a0 : Array Value) (hw : ∀ d ∈ tables_1, d.before a0 Z = true) (ws : List Jvm.Cond) (sb : Nat) (vb : Nat) (kv : ClassId) (cp : Int32) (us : List Value) (cn : Int32) (xl : Int64) (zc : Int32) (gd : Nat) (ge : Nat) (kd : ClassId) (ke : ClassId) (h0 : Heap) (n0 : Nat) (Z0 : n0 ≤ h0.size) (P1 : Exa Z h0 sb "java/lang/StringBuilder") (P2 : Fld Z h0 sb "java/lang/AbstractStringBuilder" "value" "[B" (.ref vb)) (P3 : Fld Z h0 sb "java/lang/AbstractStringBuilder" "coder" "B" (.int (0 : Int32))) (P4 : Fld Z h0 sb "java/lang/AbstractStringBuilder" "count" "I" (.int cn)) (P5 : Exa Z h0 vb "[B") (P6 : Arv Z h0 vb kv .byte cp us (.int (0 : Int32))) (OLD : Old Z n0 h0) (P7 : Sta Z Z.heap "java/lang/String" "COMPACT_STRINGS" "Z" (.int zc)) (P8 : Sta Z Z.heap "java/lang/Integer" "DigitOnes" "[B" (.ref gd)) (P9 : Sta Z Z.heap "java/lang/Integer" "DigitTens" "[B" (.ref ge)) (P10 : Arv Z Z.heap gd kd .byte (100 : Int32) own_ones (.int (0 : Int32))) (P11 : Arv Z Z.heap ge ke .byte (100 : Int32) own_tens (.int (0 : Int32))) (hzc : ¬ (zc = (0 : Int32))) (f2 : own_fit us cn) (hl : us.length + (own_dec xl).length ≤ 125) (hl2 : ((us.length + (own_dec xl).length : Nat) : Int) ≤ 2 * cp.toInt + 2) (hcp : own_cap us cp) (gsb : n0 ≤ sb) (gvb : n0 ≤ vb) (hne : sb ≠ vb) :
    MetFree l (⟨"java/lang/AbstractStringBuilder", "append", "(J)Ljava/lang/AbstractStringBuilder;"⟩ : MethodName) (head1 (Jvm.Cond.code (⟨"java/lang/AbstractStringBuilder", "append", "(J)Ljava/lang/AbstractStringBuilder;"⟩ : MethodName) jdk_68_method_33_code 5 (some (.object "java/lang/AbstractStringBuilder")) :: ws) ({ frames := 4, cells := 1, slots := 142, locals := 62 } : Room)) (fun a U => a = #[(.ref sb), (.long xl)] ∧ Z.Warmed39 U.vm ∧ U.heap = h0) (fun _ _ _ _ _ => True) (fun _ U o U' => ∃ v L, o = .returned v ∧ Q_rmABj Z sb vb kv cp us cn xl zc gd ge kd ke h0 n0 v U'.heap L ∧ FrameEnd U o U' L ({ frames := 4, cells := 1, slots := 142, locals := 62 } : Room).cells ({ frames := 4, cells := 1, slots := 142, locals := 62 } : Room).slots) := by
  refine MetFree.of_bodySF (plainFor_of_name pn_java_lang_AbstractStringBuilder) hisR ?_
  intro p e s m args below meth c s₁ Bd hml0 hP hK
  obtain ⟨rfl, hZ, hh⟩ := hP
  have hx := Bd.exec
  have hby := Bd.bytes
  have hml : c.maxLocals = 5 := hml0
  have hown : s.vm.findClass "java/lang/AbstractStringBuilder" = some m.cls := findClass_of_methodNamed Bd.named
  have hnm := (name_of_methodNamed Bd.named Bd.method).1
  have X0 : Stand p l e ({ frames := 4, cells := 1, slots := 142, locals := 62 } : Room) s m #[(.ref sb), (.long xl)] below meth c s₁ [] 0 0 := Stand.of_body Bd
  have e0 : s₁.heap = h0 := by rw [← hh, Bd.state]; rfl
  have N0 := Fr.nil n0
  have pre0 : ∀ t, Steps p.tables e below (s₁.setTop (mkF m 0 #[.val (.ref sb), .val (.long xl), .second, .unset, .unset] [])) t → Steps p.tables e below (s₁.setTop (entryFrame m #[(.ref sb), (.long xl)] 5)) t := fun t k => castTop (ef_rmABj m sb xl) k
  have w_132 := hw _ (List.mem_of_getElem? (i := 132) rfl)
  have w_133 := hw _ (List.mem_of_getElem? (i := 133) rfl)
  have w_138 := hw _ (List.mem_of_getElem? (i := 138) rfl)
  have w_142 := hw _ (List.mem_of_getElem? (i := 142) rfl)
  have w_32 := hw _ (List.mem_of_getElem? (i := 32) rfl)
  have w_71 := hw _ (List.mem_of_getElem? (i := 71) rfl)
  have w_72 := hw _ (List.mem_of_getElem? (i := 72) rfl)
  have w_74 := hw _ (List.mem_of_getElem? (i := 74) rfl)
  have w_75 := hw _ (List.mem_of_getElem? (i := 75) rfl)
  have w_77 := hw _ (List.mem_of_getElem? (i := 77) rfl)
  have oz := OLD.1
  have lt_gd : gd < Z.heap.size := P10.lt
  have lt_ge : ge < Z.heap.size := P11.lt
  have lt_sb : sb < h0.size := P1.lt
  have lt_vb : vb < h0.size := P5.lt
  refine own_go (B := s₁.setTop (mkF m 0 #[.val (.ref sb), .val (.long xl), .second, .unset, .unset] [])) pre0 ?_
  show ∃ t o, Steps p.tables e below (s₁.setTop (mkF m 0 #[.val (.ref sb), .val (.long xl), .second, .unset, .unset] [])) t ∧ _
  refine own_go (fun _ => XS.aloadN X0.here hx rfl (hb hby d20_0) rfl rfl) ?_
  obtain ⟨T12, X12, e12, st12⟩ := getF X0 hx hZ hown (host := "") (Or.inl w_71) Via.refl e0 P4 (g := (mkF m 1 #[.val (.ref sb), .val (.long xl), .second, .unset, .unset] [(.ref sb)])) rfl rfl (hb hby d20_1)
  refine own_go st12 ?_
  refine own_go (fun _ => XS.istoreN X12.here hx rfl (hb hby d20_4) rfl (l' := #[.val (.ref sb), .val (.long xl), .second, .val (.int cn), .unset]) rfl) ?_
  refine own_go (fun _ => XS.iloadN X12.here hx rfl (hb hby d20_5) rfl) ?_
  refine own_go (fun _ => XS.lloadN X12.here hx rfl (hb hby d20_6) rfl) ?_
  show ∃ t o, Steps p.tables e below (T12.setTop (mkF m 7 #[.val (.ref sb), .val (.long xl), .second, .val (.int cn), .unset] [(.long xl), (.int cn)])) t ∧ _
  obtain ⟨_, _, ⟨T13, L13, k13, n13⟩, -, X13, ⟨Lc13, hQ13, l13, y13, z13⟩, st13⟩ := Jvm.LawKit.callS X12 hx (y := (⟨"java/lang/Long", "stringSize", "(J)I"⟩ : MethodName)) hown (mvT hZ (hw _ (List.mem_of_getElem? (i := 130) rfl))) (mvT hZ (hw _ (List.mem_of_getElem? (i := 131) rfl))) (mvT hZ w_132) (mvT hZ w_133) (by decide) (backOf (W := 1) (rmSS l Z a0 hw [] xl h0 n0 Z0 OLD) hZ w_133 w_132 (by decide) (by decide)) (g := (mkF m 7 #[.val (.ref sb), .val (.long xl), .second, .val (.int cn), .unset] [(.long xl), (.int cn)])) rfl (by rw [hml]; rfl) (argsL := [(.long xl)]) (rest := [(.int cn)]) (lenOf pd__28J_29I rfl) rfl (by show 2 * 0 + _ ≤ _; exact Nat.le_of_eq rfl) (hb hby d20_7) (fun _ _ => ⟨rfl, e12, (by decide : 0 + 0 ≤ _), (by decide : 0 + 0 ≤ _)⟩)
  dsimp only [Pt.U, Pt.locs, Pt.cells, Pt.slots] at X13 l13 y13 z13 st13 hQ13
  rw [l13, y13, z13] at X13
  obtain ⟨r1_13, rfl, Nq13, e13, H13_0⟩ := hQ13
  have N13 := Fr.app N0 Nq13
  refine own_go st13 ?_
  refine own_go (fun _ => XS.iadd X13.here hx rfl (hb hby d20_10) rfl) ?_
  refine own_go (fun _ => XS.istore X13.here hx rfl (hb hby d20_11) rfl (l' := #[.val (.ref sb), .val (.long xl), .second, .val (.int cn), .val (.int (cn + r1_13))]) rfl) ?_
  refine own_go (fun _ => XS.aloadN X13.here hx rfl (hb hby d20_13) rfl rfl) ?_
  refine own_go (fun _ => XS.iload X13.here hx rfl (hb hby d20_14) rfl) ?_
  show ∃ t o, Steps p.tables e below (T13.setTop (mkF m 16 #[.val (.ref sb), .val (.long xl), .second, .val (.int cn), .val (.int (cn + r1_13))] [(.int (cn + r1_13)), (.ref sb)])) t ∧ _
  obtain ⟨cq14, q14, q14'⟩ := P1.cell
  obtain ⟨_, _, ⟨T14, L14, k14, n14⟩, -, X14, ⟨Lc14, hQ14, l14, y14, z14⟩, st14⟩ := X13.privateBack hx (y := (⟨"java/lang/AbstractStringBuilder", "ensureCapacityInternal", "(I)V"⟩ : MethodName)) hown (mvT hZ (hw _ (List.mem_of_getElem? (i := 73) rfl))) (mvT hZ w_74) (mvT hZ (own_selp (y := (⟨"java/lang/AbstractStringBuilder", "ensureCapacityInternal", "(I)V"⟩ : MethodName)) (hw _ (List.mem_of_getElem? (i := 76) rfl)) rfl w_75 w_74 (by decide))) (Cond.privateMethod_at (mvP hZ w_75 (args := #[]))) (mvT hZ w_77) (by decide) (backOf (W := 0) (rmEns l Z a0 hw [] sb vb kv cp us cn (cn + r1_13) h0 n0 Z0 P1 P2 P3 P4 P5 P6 OLD (own_mn_of f2 H13_0 hl hl2 : own_mn (cn + r1_13) cp) hcp gsb gvb hne) hZ w_77 w_32 (by decide) (by decide)) (g := (mkF m 16 #[.val (.ref sb), .val (.long xl), .second, .val (.int cn), .val (.int (cn + r1_13))] [(.int (cn + r1_13)), (.ref sb)])) rfl (by rw [hml]; rfl) (Steps.refl _) (a := sb) (by rw [e13]; exact q14) q14' (argsL := [(.int (cn + r1_13))]) (rest := []) (lenOf pd__28I_29V rfl) rfl (by show 2 * 0 + _ ≤ _; exact Nat.le_of_eq rfl) (hb hby d20_16) (fun _ _ => ⟨rfl, e13, (by decide : 0 + 1 ≤ _), (by decide : 0 + 142 ≤ _)⟩)
  dsimp only [Pt.U, Pt.locs, Pt.cells, Pt.slots] at X14 l14 y14 z14 st14 hQ14
  rw [l14, y14, z14] at X14
  obtain ⟨vb2_14, kv2_14, cp2_14, rfl, Nq14, Kp14, G14_0, G14_1, G14_2, G14_3, G14_4, G14_5, H14_0, H14_1, H14_2, H14_3, H14_4⟩ := hQ14
  have N14 := Fr.app N13 Nq14
  refine own_goT st14 ?_
  have le_14 : h0.size ≤ T14.heap.size := Kp14.1
  have K14 : Keep h0 T14.heap [sb, vb] := Keep.trans (Keep.refl h0 [sb, vb]) Kp14 (allS (Or.inl (List.mem_of_getElem? (i := 0) rfl)) all0)
  have lt_vb2_14 : vb2_14 < T14.heap.size := (G14_4).lt
  have kp15 := own_kp (sb := sb) H14_2
  refine own_go (fun _ => XS.aloadN X14.here hx rfl (hb hby d20_19) rfl rfl) ?_
  show ∃ t o, Steps p.tables e below (T14.setTop (mkF m 20 #[.val (.ref sb), .val (.long xl), .second, .val (.int cn), .val (.int (cn + r1_13))] [(.ref sb)])) t ∧ _
  have F16 := (Old.keep OLD Kp14 (allS gsb all0))
  have zl17 : n0 ≤ T14.heap.size := by omega
  obtain ⟨cq18, kq18, q18a, q18b, q18c⟩ := isOf hZ rfl G14_0
  obtain ⟨_, _, ⟨T18, L18, k18, n18⟩, -, X18, ⟨Lc18, hQ18, l18, y18, z18⟩, st18⟩ := X14.virtualBack hx (y := (⟨"java/lang/AbstractStringBuilder", "isLatin1", "()Z"⟩ : MethodName)) (z := (⟨"java/lang/AbstractStringBuilder", "isLatin1", "()Z"⟩ : MethodName)) hown (mvT hZ (hw _ (List.mem_of_getElem? (i := 135) rfl))) (mvT hZ (hw _ (List.mem_of_getElem? (i := 136) rfl))) (notFace_of_selects (args := #[]) (mvT hZ w_138)) (mvT hZ w_138) (mvT hZ (hw _ (List.mem_of_getElem? (i := 137) rfl))) (by decide) (backOf (W := 0) (rmABL1 l Z a0 hw [] sb zc T14.heap n0 zl17 G14_2 F16 P7 hzc) hZ (hw _ (List.mem_of_getElem? (i := 139) rfl)) w_32 (by decide) (by decide)) q18a q18c (g := (mkF m 20 #[.val (.ref sb), .val (.long xl), .second, .val (.int cn), .val (.int (cn + r1_13))] [(.ref sb)])) rfl (by rw [hml]; rfl) (Steps.refl _) (argsL := []) (rest := []) (lenOf pd__28_29Z rfl) rfl (by show 2 * 0 + _ ≤ _; exact Nat.le_of_eq rfl) (hb hby d20_20) (fun _ _ => ⟨rfl, rfl, (by decide : 1 + 0 ≤ _), (by decide : 142 + 0 ≤ _)⟩)
  dsimp only [Pt.U, Pt.locs, Pt.cells, Pt.slots] at X18 l18 y18 z18 st18 hQ18
  rw [l18, y18, z18] at X18
  obtain ⟨rfl, Nq18, e18⟩ := hQ18
  have N18 := Fr.app N14 Nq18
  refine own_goT st18 ?_
  show ∃ t o, Steps p.tables e below (T18.setTop (mkF m 23 #[.val (.ref sb), .val (.long xl), .second, .val (.int cn), .val (.int (cn + r1_13))] [(.int (1 : Int32))])) t ∧ _
  refine own_go (fun _ => XS.ifNo X18.here hx rfl (hb hby d20_23) rfl ((if0 _ _).trans (feq (by decide : ¬ ((1 : Int32) = (0 : Int32)))).1)) ?_
  refine own_go (fun _ => XS.lloadN X18.here hx rfl (hb hby d20_26) rfl) ?_
  refine own_go (fun _ => XS.iload X18.here hx rfl (hb hby d20_27) rfl) ?_
  refine own_go (fun _ => XS.aloadN X18.here hx rfl (hb hby d20_29) rfl rfl) ?_
  obtain ⟨T19, X19, e19, st19⟩ := getF X18 hx hZ hown (host := "") (Or.inl (hw _ (List.mem_of_getElem? (i := 38) rfl))) Via.refl e18 G14_1 (g := (mkF m 30 #[.val (.ref sb), .val (.long xl), .second, .val (.int cn), .val (.int (cn + r1_13))] [(.ref sb), (.int (cn + r1_13)), (.long xl)])) rfl rfl (hb hby d20_30)
  refine own_go st19 ?_
  show ∃ t o, Steps p.tables e below (T19.setTop (mkF m 33 #[.val (.ref sb), .val (.long xl), .second, .val (.int cn), .val (.int (cn + r1_13))] [(.ref vb2_14), (.int (cn + r1_13)), (.long xl)])) t ∧ _
  have frm := own_room f2 H13_0 hl H14_1
  have fad := own_fit.add f2 H13_0 (by omega)
  obtain ⟨_, _, ⟨T20, L20, k20, n20⟩, -, X20, ⟨Lc20, hQ20, l20, y20, z20⟩, st20⟩ := Jvm.LawKit.callS X19 hx (y := (⟨"java/lang/Long", "getChars", "(JI[B)I"⟩ : MethodName)) hown (mvT hZ (hw _ (List.mem_of_getElem? (i := 140) rfl))) (mvT hZ (hw _ (List.mem_of_getElem? (i := 141) rfl))) (mvT hZ w_132) (mvT hZ w_142) (by decide) (backOf (W := 0) (rmGc l Z a0 hw [] xl (cn + r1_13) vb2_14 kv2_14 cp2_14 us gd ge kd ke T14.heap n0 zl17 G14_5 F16 P8 P9 P10 P11 (by have q := fad; unfold own_fit at q; rw [List.length_append] at q; exact q) (by have q := frm; have z := H14_0.2.1; simp only [Int32.toNatClampNeg] at q; omega) H14_4) hZ w_142 w_132 (by decide) (by decide)) (g := (mkF m 33 #[.val (.ref sb), .val (.long xl), .second, .val (.int cn), .val (.int (cn + r1_13))] [(.ref vb2_14), (.int (cn + r1_13)), (.long xl)])) rfl (by rw [hml]; rfl) (argsL := [(.long xl), (.int (cn + r1_13)), (.ref vb2_14)]) (rest := []) (lenOf pd__28JI_5bB_29I rfl) rfl (by show 2 * 0 + _ ≤ _; exact Nat.le_of_eq rfl) (hb hby d20_33) (fun _ _ => ⟨rfl, e19, (by decide : 1 + 0 ≤ _), (by decide : 142 + 0 ≤ _)⟩)
  dsimp only [Pt.U, Pt.locs, Pt.cells, Pt.slots] at X20 l20 y20 z20 st20 hQ20
  rw [l20, y20, z20] at X20
  obtain ⟨r1_20, rfl, Nq20, Kp20, G20_0⟩ := hQ20
  have N20 := Fr.app N18 Nq20
  refine own_go st20 ?_
  have le_20 : T14.heap.size ≤ T20.heap.size := Kp20.1
  have K20 : Keep h0 T20.heap [sb, vb] := Keep.trans K14 Kp20 (allS (kp15) all0)
  refine own_go (fun _ => XS.pop X20.here hx rfl (hb hby d20_36) rfl rfl) ?_
  refine own_go (fun _ => XS.goto X20.here hx rfl (pc0 := 37) (pc' := 52) rfl (hb hby d20_37) (by decide) (by decide)) ?_
  refine own_go (fun _ => XS.aloadN X20.here hx rfl (hb hby d20_52) rfl rfl) ?_
  refine own_go (fun _ => XS.iload X20.here hx rfl (hb hby d20_53) rfl) ?_
  have F21 := (Exa.keep G14_0 Kp20)
  have F22 := (Fld.keep G14_3 Kp20 (ninS H14_3 nin0))
  obtain ⟨T23, h23, X23, e23, W23, st23⟩ := putF X20 hx hZ hown (host := "") (Or.inl w_71) Via.refl rfl F22 F21 (Or.inl w_72) (hw _ (List.mem_of_getElem? (i := 23) rfl)) (ty := .int) (by decide) rfl rfl (g := (mkF m 55 #[.val (.ref sb), .val (.long xl), .second, .val (.int cn), .val (.int (cn + r1_13))] [(.int (cn + r1_13)), (.ref sb)])) rfl rfl (hb hby d20_55)
  refine own_go st23 ?_
  have le_23 : T20.heap.size ≤ h23.size := Nat.le_of_eq W23.size.symm
  have K23 : Keep h0 h23 [sb, vb] := Keep.wr K20 W23 (Or.inl (List.mem_of_getElem? (i := 0) rfl))
  have N23 := Fr.snoc X23 N20 gsb
  have Fw23 := Fld.same W23 F22
  refine own_go (fun _ => XS.aloadN X23.here hx rfl (hb hby d20_58) rfl rfl) ?_
  show ∃ t o, Steps p.tables e below (T23.setTop (mkF m 59 #[.val (.ref sb), .val (.long xl), .second, .val (.int cn), .val (.int (cn + r1_13))] [(.ref sb)])) t ∧ _
  have F24 := (Exa.wr W23 F21)
  have F25 := (Fld.other W23 (Fld.keep G14_1 Kp20 (ninS H14_3 nin0)) (Or.inr (slot_ne (a0 := a0) (Or.inl (hw _ (List.mem_of_getElem? (i := 39) rfl))) (Or.inl w_72) (by decide) (t := (.array .byte)) (t' := .int) (by decide) (by decide))))
  have F26 := (Fld.other W23 (Fld.keep G14_2 Kp20 (ninS H14_3 nin0)) (Or.inr (slot_ne (a0 := a0) (Or.inl (hw _ (List.mem_of_getElem? (i := 41) rfl))) (Or.inl w_72) (by decide) (t := .byte) (t' := .int) (by decide) (by decide))))
  have F27 := (Exa.wr W23 (Exa.keep G14_4 Kp20))
  have ne28 : vb2_14 ≠ sb := own_ne (by omega)
  have F29 := (Arv.other G20_0 W23 ne28)
  obtain ⟨fs, hr, hrun, hended, hW, hsame⟩ := X23.leave (v := some (.ref sb)) (fun h => by rw [Bd.returns] at h; cases h)
  refine ⟨_, _, ?_, hrun, hended, _, _, rfl, ?_, ⟨_, rfl⟩, hW, hsame.mono (by decide) (by decide)⟩
  · jvm_step X23.here [X23.here.top, hx, (hb hby d20_59), X23.method', Bd.returns, Value.isRef, FieldType.isReference]
    first | (intro acts; rw [hr _ acts rfl rfl rfl]) | rw [hr _ _ rfl rfl rfl]
    exact Steps.refl _
  · show Q_rmABj Z _ _ _ _ _ _ _ _ _ _ _ _ h0 n0 _ T23.heap _
    rw [e23]
    exact ⟨vb2_14, kv2_14, cp2_14, (cn + r1_13), rfl, N23, K23, F24, F25, F26, Fw23, F27, F29, (own_cap.app H14_0 frm), fad, H14_2, H14_3, H14_4⟩
theorem ef_rmSBj (m : MethodId) (x0 : Nat) (x1 : Int64) : entryFrame m #[(.ref x0), (.long x1)] 3 = mkF m 0 #[.val (.ref x0), .val (.long x1), .second] [] := by first | (simp [entryFrame, mkF, argsToLocals, Value.category]; done) | rfl
theorem d19_0 : decode jdk_67_method_16_code 0 = .ok (.aload_n 0, 1) := by decide +kernel
theorem d19_1 : decode jdk_67_method_16_code 1 = .ok (.lload_n 1, 1) := by decide +kernel
theorem d19_2 : decode jdk_67_method_16_code 2 = .ok (.invokespecial 56, 3) := by decide +kernel
theorem pd__28J_29Ljava_2flang_2fAbstractStringBuilder_3b : parseMethodDescriptor "(J)Ljava/lang/AbstractStringBuilder;" = some ⟨[.long], some (.object "java/lang/AbstractStringBuilder")⟩ := by decide +kernel
theorem d19_5 : decode jdk_67_method_16_code 5 = .ok (.pop, 1) := by decide +kernel
theorem d19_6 : decode jdk_67_method_16_code 6 = .ok (.aload_n 0, 1) := by decide +kernel
theorem d19_7 : decode jdk_67_method_16_code 7 = .ok (.areturn, 1) := by decide +kernel
def Q_rmSBj (Z : State) (sb : Nat) (vb : Nat) (kv : ClassId) (cp : Int32) (us : List Value) (cn : Int32) (xl : Int64) (zc : Int32) (gd : Nat) (ge : Nat) (kd : ClassId) (ke : ClassId) (h0 : Heap) (n0 : Nat) (v : Option Value) (h : Heap) (L : List Loc) : Prop := ∃ (vb2 : Nat), ∃ (kv2 : ClassId), ∃ (cp2 : Int32), ∃ (cn2 : Int32), v = some (.ref sb) ∧ Fr n0 L ∧ Keep h0 h [sb, vb] ∧ Exa Z h sb "java/lang/StringBuilder" ∧ Fld Z h sb "java/lang/AbstractStringBuilder" "value" "[B" (.ref vb2) ∧ Fld Z h sb "java/lang/AbstractStringBuilder" "coder" "B" (.int (0 : Int32)) ∧ Fld Z h sb "java/lang/AbstractStringBuilder" "count" "I" (.int cn2) ∧ Exa Z h vb2 "[B" ∧ Arv Z h vb2 kv2 .byte cp2 (us ++ own_dec xl) (.int (0 : Int32)) ∧ (own_cap (us ++ own_dec xl) cp2) ∧ (own_fit (us ++ own_dec xl) cn2) ∧ (vb2 = vb ∨ h0.size ≤ vb2) ∧ (sb ≠ vb2) ∧ (n0 ≤ vb2)
set_option maxRecDepth 65536 in
set_option maxHeartbeats 40000000 in
theorem rmSBj (l : Launch) (Z : State) (a0 : Array Value) (hw : ∀ d ∈ tables_1, d.before a0 Z = true) (ws : List Jvm.Cond) (sb : Nat) (vb : Nat) (kv : ClassId) (cp : Int32) (us : List Value) (cn : Int32) (xl : Int64) (zc : Int32) (gd : Nat) (ge : Nat) (kd : ClassId) (ke : ClassId) (h0 : Heap) (n0 : Nat) (Z0 : n0 ≤ h0.size) (P1 : Exa Z h0 sb "java/lang/StringBuilder") (P2 : Fld Z h0 sb "java/lang/AbstractStringBuilder" "value" "[B" (.ref vb)) (P3 : Fld Z h0 sb "java/lang/AbstractStringBuilder" "coder" "B" (.int (0 : Int32))) (P4 : Fld Z h0 sb "java/lang/AbstractStringBuilder" "count" "I" (.int cn)) (P5 : Exa Z h0 vb "[B") (P6 : Arv Z h0 vb kv .byte cp us (.int (0 : Int32))) (OLD : Old Z n0 h0) (P7 : Sta Z Z.heap "java/lang/String" "COMPACT_STRINGS" "Z" (.int zc)) (P8 : Sta Z Z.heap "java/lang/Integer" "DigitOnes" "[B" (.ref gd)) (P9 : Sta Z Z.heap "java/lang/Integer" "DigitTens" "[B" (.ref ge)) (P10 : Arv Z Z.heap gd kd .byte (100 : Int32) own_ones (.int (0 : Int32))) (P11 : Arv Z Z.heap ge ke .byte (100 : Int32) own_tens (.int (0 : Int32))) (hzc : ¬ (zc = (0 : Int32))) (f2 : own_fit us cn) (hl : us.length + (own_dec xl).length ≤ 125) (hl2 : ((us.length + (own_dec xl).length : Nat) : Int) ≤ 2 * cp.toInt + 2) (hcp : own_cap us cp) (gsb : n0 ≤ sb) (gvb : n0 ≤ vb) (hne : sb ≠ vb) :
    MetFree l (⟨"java/lang/StringBuilder", "append", "(J)Ljava/lang/StringBuilder;"⟩ : MethodName) (head1 (Jvm.Cond.code (⟨"java/lang/StringBuilder", "append", "(J)Ljava/lang/StringBuilder;"⟩ : MethodName) jdk_67_method_16_code 3 (some (.object "java/lang/StringBuilder")) :: ws) ({ frames := 5, cells := 1, slots := 142, locals := 78 } : Room)) (fun a U => a = #[(.ref sb), (.long xl)] ∧ Z.Warmed39 U.vm ∧ U.heap = h0) (fun _ _ _ _ _ => True) (fun _ U o U' => ∃ v L, o = .returned v ∧ Q_rmSBj Z sb vb kv cp us cn xl zc gd ge kd ke h0 n0 v U'.heap L ∧ FrameEnd U o U' L ({ frames := 5, cells := 1, slots := 142, locals := 78 } : Room).cells ({ frames := 5, cells := 1, slots := 142, locals := 78 } : Room).slots) := by
  refine MetFree.of_bodySF (plainFor_of_name pn_java_lang_StringBuilder) hisR ?_
  intro p e s m args below meth c s₁ Bd hml0 hP hK
  obtain ⟨rfl, hZ, hh⟩ := hP
  have hx := Bd.exec
  have hby := Bd.bytes
  have hml : c.maxLocals = 3 := hml0
  have hown : s.vm.findClass "java/lang/StringBuilder" = some m.cls := findClass_of_methodNamed Bd.named
  have hnm := (name_of_methodNamed Bd.named Bd.method).1
  have X0 : Stand p l e ({ frames := 5, cells := 1, slots := 142, locals := 78 } : Room) s m #[(.ref sb), (.long xl)] below meth c s₁ [] 0 0 := Stand.of_body Bd
  have e0 : s₁.heap = h0 := by rw [← hh, Bd.state]; rfl
  have N0 := Fr.nil n0
  have pre0 : ∀ t, Steps p.tables e below (s₁.setTop (mkF m 0 #[.val (.ref sb), .val (.long xl), .second] [])) t → Steps p.tables e below (s₁.setTop (entryFrame m #[(.ref sb), (.long xl)] 3)) t := fun t k => castTop (ef_rmSBj m sb xl) k
  have w_127 := hw _ (List.mem_of_getElem? (i := 127) rfl)
  have w_129 := hw _ (List.mem_of_getElem? (i := 129) rfl)
  have oz := OLD.1
  have lt_gd : gd < Z.heap.size := P10.lt
  have lt_ge : ge < Z.heap.size := P11.lt
  have lt_sb : sb < h0.size := P1.lt
  have lt_vb : vb < h0.size := P5.lt
  refine own_go (B := s₁.setTop (mkF m 0 #[.val (.ref sb), .val (.long xl), .second] [])) pre0 ?_
  show ∃ t o, Steps p.tables e below (s₁.setTop (mkF m 0 #[.val (.ref sb), .val (.long xl), .second] [])) t ∧ _
  refine own_go (fun _ => XS.aloadN X0.here hx rfl (hb hby d19_0) rfl rfl) ?_
  refine own_go (fun _ => XS.lloadN X0.here hx rfl (hb hby d19_1) rfl) ?_
  show ∃ t o, Steps p.tables e below (s₁.setTop (mkF m 2 #[.val (.ref sb), .val (.long xl), .second] [(.long xl), (.ref sb)])) t ∧ _
  obtain ⟨_, _, ⟨T12, L12, k12, n12⟩, -, X12, ⟨Lc12, hQ12, l12, y12, z12⟩, st12⟩ := superBack X0 hx hZ (y := (⟨"java/lang/AbstractStringBuilder", "append", "(J)Ljava/lang/AbstractStringBuilder;"⟩ : MethodName)) hown (hw _ (List.mem_of_getElem? (i := 126) rfl)) (own_same (y := (⟨"java/lang/AbstractStringBuilder", "append", "(J)Ljava/lang/AbstractStringBuilder;"⟩ : MethodName)) (hw _ (List.mem_of_getElem? (i := 76) rfl)) rfl w_127 (by decide)) w_127 (hw _ (List.mem_of_getElem? (i := 55) rfl)) (by decide) (backOf (W := 0) (rmABj l Z a0 hw [] sb vb kv cp us cn xl zc gd ge kd ke h0 n0 Z0 P1 P2 P3 P4 P5 P6 OLD P7 P8 P9 P10 P11 hzc f2 hl hl2 hcp gsb gvb hne) hZ w_129 (hw _ (List.mem_of_getElem? (i := 32) rfl)) (by decide) (by decide)) e0 (Ins.self P1) (g := (mkF m 2 #[.val (.ref sb), .val (.long xl), .second] [(.long xl), (.ref sb)])) rfl (by rw [hml]; rfl) w_129 (argsL := [(.long xl)]) (rest := []) (lenOf pd__28J_29Ljava_2flang_2fAbstractStringBuilder_3b rfl) rfl (by show 2 * 0 + _ ≤ _; exact Nat.le_of_eq rfl) (hb hby d19_2) (fun _ _ => ⟨rfl, e0, (by decide : 0 + 1 ≤ _), (by decide : 0 + 142 ≤ _)⟩)
  dsimp only [Pt.U, Pt.locs, Pt.cells, Pt.slots] at X12 l12 y12 z12 st12 hQ12
  rw [l12, y12, z12] at X12
  obtain ⟨vb2_12, kv2_12, cp2_12, cn2_12, rfl, Nq12, Kp12, G12_0, G12_1, G12_2, G12_3, G12_4, G12_5, H12_0, H12_1, H12_2, H12_3, H12_4⟩ := hQ12
  have N12 := Fr.app N0 Nq12
  refine own_goT st12 ?_
  have le_12 : h0.size ≤ T12.heap.size := Kp12.1
  have K12 : Keep h0 T12.heap [sb, vb] := Keep.trans (Keep.refl h0 [sb, vb]) Kp12 (allS (Or.inl (List.mem_of_getElem? (i := 0) rfl)) (allS (Or.inl (List.mem_of_getElem? (i := 1) rfl)) all0))
  have lt_vb2_12 : vb2_12 < T12.heap.size := (G12_4).lt
  refine own_go (fun _ => XS.pop X12.here hx rfl (hb hby d19_5) rfl rfl) ?_
  refine own_go (fun _ => XS.aloadN X12.here hx rfl (hb hby d19_6) rfl rfl) ?_
  show ∃ t o, Steps p.tables e below (T12.setTop (mkF m 7 #[.val (.ref sb), .val (.long xl), .second] [(.ref sb)])) t ∧ _
  obtain ⟨fs, hr, hrun, hended, hW, hsame⟩ := X12.leave (v := some (.ref sb)) (fun h => by rw [Bd.returns] at h; cases h)
  refine ⟨_, _, ?_, hrun, hended, _, _, rfl, ?_, ⟨_, rfl⟩, hW, hsame.mono (by decide) (by decide)⟩
  · jvm_step X12.here [X12.here.top, hx, (hb hby d19_7), X12.method', Bd.returns, Value.isRef, FieldType.isReference]
    first | (intro acts; rw [hr _ acts rfl rfl rfl]) | rw [hr _ _ rfl rfl rfl]
    exact Steps.refl _
  · show Q_rmSBj Z _ _ _ _ _ _ _ _ _ _ _ _ h0 n0 _ T12.heap _
    exact ⟨vb2_12, kv2_12, cp2_12, cn2_12, rfl, N12, K12, G12_0, G12_1, G12_2, G12_3, G12_4, G12_5, H12_0, H12_1, H12_2, H12_3, H12_4⟩
theorem ef_rmABj0 (m : MethodId) (x0 : Nat) (x1 : Int64) : entryFrame m #[(.ref x0), (.long x1)] 5 = mkF m 0 #[.val (.ref x0), .val (.long x1), .second, .unset, .unset] [] := by first | (simp [entryFrame, mkF, argsToLocals, Value.category]; done) | rfl
def Q_rmABj0 (Z : State) (sb : Nat) (vb : Nat) (kv : ClassId) (cp : Int32) (us : List Value) (cn : Int32) (xl : Int64) (zc : Int32) (gd : Nat) (ge : Nat) (kd : ClassId) (ke : ClassId) (h0 : Heap) (n0 : Nat) (v : Option Value) (h : Heap) (L : List Loc) : Prop := ∃ (cn2 : Int32), v = some (.ref sb) ∧ Fr n0 L ∧ Keep h0 h [sb, vb] ∧ Exa Z h sb "java/lang/StringBuilder" ∧ Fld Z h sb "java/lang/AbstractStringBuilder" "value" "[B" (.ref vb) ∧ Fld Z h sb "java/lang/AbstractStringBuilder" "coder" "B" (.int (0 : Int32)) ∧ Fld Z h sb "java/lang/AbstractStringBuilder" "count" "I" (.int cn2) ∧ Exa Z h vb "[B" ∧ Arv Z h vb kv .byte cp (us ++ own_dec xl) (.int (0 : Int32)) ∧ (own_cap (us ++ own_dec xl) cp) ∧ (own_fit (us ++ own_dec xl) cn2)
set_option maxRecDepth 65536 in
set_option maxHeartbeats 40000000 in
theorem rmABj0 (l : Launch) (Z : State) (a0 : Array Value) (hw : ∀ d ∈ tables_1, d.before a0 Z = true) (ws : List Jvm.Cond) (sb : Nat) (vb : Nat) (kv : ClassId) (cp : Int32) (us : List Value) (cn : Int32) (xl : Int64) (zc : Int32) (gd : Nat) (ge : Nat) (kd : ClassId) (ke : ClassId) (h0 : Heap) (n0 : Nat) (Z0 : n0 ≤ h0.size) (P1 : Exa Z h0 sb "java/lang/StringBuilder") (P2 : Fld Z h0 sb "java/lang/AbstractStringBuilder" "value" "[B" (.ref vb)) (P3 : Fld Z h0 sb "java/lang/AbstractStringBuilder" "coder" "B" (.int (0 : Int32))) (P4 : Fld Z h0 sb "java/lang/AbstractStringBuilder" "count" "I" (.int cn)) (P5 : Exa Z h0 vb "[B") (P6 : Arv Z h0 vb kv .byte cp us (.int (0 : Int32))) (OLD : Old Z n0 h0) (P7 : Sta Z Z.heap "java/lang/String" "COMPACT_STRINGS" "Z" (.int zc)) (P8 : Sta Z Z.heap "java/lang/Integer" "DigitOnes" "[B" (.ref gd)) (P9 : Sta Z Z.heap "java/lang/Integer" "DigitTens" "[B" (.ref ge)) (P10 : Arv Z Z.heap gd kd .byte (100 : Int32) own_ones (.int (0 : Int32))) (P11 : Arv Z Z.heap ge ke .byte (100 : Int32) own_tens (.int (0 : Int32))) (hzc : ¬ (zc = (0 : Int32))) (f2 : own_fit us cn) (hq : us.length + (own_dec xl).length ≤ cp.toNatClampNeg) (hcp : own_cap us cp) (gsb : n0 ≤ sb) (gvb : n0 ≤ vb) (hne : sb ≠ vb) :
    MetFree l (⟨"java/lang/AbstractStringBuilder", "append", "(J)Ljava/lang/AbstractStringBuilder;"⟩ : MethodName) (head1 (Jvm.Cond.code (⟨"java/lang/AbstractStringBuilder", "append", "(J)Ljava/lang/AbstractStringBuilder;"⟩ : MethodName) jdk_68_method_33_code 5 (some (.object "java/lang/AbstractStringBuilder")) :: ws) ({ frames := 1, cells := 0, slots := 0, locals := 22 } : Room)) (fun a U => a = #[(.ref sb), (.long xl)] ∧ Z.Warmed39 U.vm ∧ U.heap = h0) (fun _ _ _ _ _ => True) (fun _ U o U' => ∃ v L, o = .returned v ∧ Q_rmABj0 Z sb vb kv cp us cn xl zc gd ge kd ke h0 n0 v U'.heap L ∧ FrameEnd U o U' L ({ frames := 1, cells := 0, slots := 0, locals := 22 } : Room).cells ({ frames := 1, cells := 0, slots := 0, locals := 22 } : Room).slots) := by
  refine MetFree.of_bodySF (plainFor_of_name pn_java_lang_AbstractStringBuilder) hisR ?_
  intro p e s m args below meth c s₁ Bd hml0 hP hK
  obtain ⟨rfl, hZ, hh⟩ := hP
  have hx := Bd.exec
  have hby := Bd.bytes
  have hml : c.maxLocals = 5 := hml0
  have hown : s.vm.findClass "java/lang/AbstractStringBuilder" = some m.cls := findClass_of_methodNamed Bd.named
  have hnm := (name_of_methodNamed Bd.named Bd.method).1
  have X0 : Stand p l e ({ frames := 1, cells := 0, slots := 0, locals := 22 } : Room) s m #[(.ref sb), (.long xl)] below meth c s₁ [] 0 0 := Stand.of_body Bd
  have e0 : s₁.heap = h0 := by rw [← hh, Bd.state]; rfl
  have N0 := Fr.nil n0
  have pre0 : ∀ t, Steps p.tables e below (s₁.setTop (mkF m 0 #[.val (.ref sb), .val (.long xl), .second, .unset, .unset] [])) t → Steps p.tables e below (s₁.setTop (entryFrame m #[(.ref sb), (.long xl)] 5)) t := fun t k => castTop (ef_rmABj0 m sb xl) k
  have w_132 := hw _ (List.mem_of_getElem? (i := 132) rfl)
  have w_133 := hw _ (List.mem_of_getElem? (i := 133) rfl)
  have w_138 := hw _ (List.mem_of_getElem? (i := 138) rfl)
  have w_142 := hw _ (List.mem_of_getElem? (i := 142) rfl)
  have w_32 := hw _ (List.mem_of_getElem? (i := 32) rfl)
  have w_71 := hw _ (List.mem_of_getElem? (i := 71) rfl)
  have w_72 := hw _ (List.mem_of_getElem? (i := 72) rfl)
  have w_74 := hw _ (List.mem_of_getElem? (i := 74) rfl)
  have w_75 := hw _ (List.mem_of_getElem? (i := 75) rfl)
  have w_77 := hw _ (List.mem_of_getElem? (i := 77) rfl)
  have oz := OLD.1
  have lt_gd : gd < Z.heap.size := P10.lt
  have lt_ge : ge < Z.heap.size := P11.lt
  have lt_sb : sb < h0.size := P1.lt
  have lt_vb : vb < h0.size := P5.lt
  refine own_go (B := s₁.setTop (mkF m 0 #[.val (.ref sb), .val (.long xl), .second, .unset, .unset] [])) pre0 ?_
  show ∃ t o, Steps p.tables e below (s₁.setTop (mkF m 0 #[.val (.ref sb), .val (.long xl), .second, .unset, .unset] [])) t ∧ _
  refine own_go (fun _ => XS.aloadN X0.here hx rfl (hb hby d20_0) rfl rfl) ?_
  obtain ⟨T12, X12, e12, st12⟩ := getF X0 hx hZ hown (host := "") (Or.inl w_71) Via.refl e0 P4 (g := (mkF m 1 #[.val (.ref sb), .val (.long xl), .second, .unset, .unset] [(.ref sb)])) rfl rfl (hb hby d20_1)
  refine own_go st12 ?_
  refine own_go (fun _ => XS.istoreN X12.here hx rfl (hb hby d20_4) rfl (l' := #[.val (.ref sb), .val (.long xl), .second, .val (.int cn), .unset]) rfl) ?_
  refine own_go (fun _ => XS.iloadN X12.here hx rfl (hb hby d20_5) rfl) ?_
  refine own_go (fun _ => XS.lloadN X12.here hx rfl (hb hby d20_6) rfl) ?_
  show ∃ t o, Steps p.tables e below (T12.setTop (mkF m 7 #[.val (.ref sb), .val (.long xl), .second, .val (.int cn), .unset] [(.long xl), (.int cn)])) t ∧ _
  obtain ⟨_, _, ⟨T13, L13, k13, n13⟩, -, X13, ⟨Lc13, hQ13, l13, y13, z13⟩, st13⟩ := Jvm.LawKit.callS X12 hx (y := (⟨"java/lang/Long", "stringSize", "(J)I"⟩ : MethodName)) hown (mvT hZ (hw _ (List.mem_of_getElem? (i := 130) rfl))) (mvT hZ (hw _ (List.mem_of_getElem? (i := 131) rfl))) (mvT hZ w_132) (mvT hZ w_133) (by decide) (backOf (W := 1) (rmSS l Z a0 hw [] xl h0 n0 Z0 OLD) hZ w_133 w_132 (by decide) (by decide)) (g := (mkF m 7 #[.val (.ref sb), .val (.long xl), .second, .val (.int cn), .unset] [(.long xl), (.int cn)])) rfl (by rw [hml]; rfl) (argsL := [(.long xl)]) (rest := [(.int cn)]) (lenOf pd__28J_29I rfl) rfl (by show 2 * 0 + _ ≤ _; exact Nat.le_of_eq rfl) (hb hby d20_7) (fun _ _ => ⟨rfl, e12, (by decide : 0 + 0 ≤ _), (by decide : 0 + 0 ≤ _)⟩)
  dsimp only [Pt.U, Pt.locs, Pt.cells, Pt.slots] at X13 l13 y13 z13 st13 hQ13
  rw [l13, y13, z13] at X13
  obtain ⟨r1_13, rfl, Nq13, e13, H13_0⟩ := hQ13
  have N13 := Fr.app N0 Nq13
  refine own_go st13 ?_
  refine own_go (fun _ => XS.iadd X13.here hx rfl (hb hby d20_10) rfl) ?_
  refine own_go (fun _ => XS.istore X13.here hx rfl (hb hby d20_11) rfl (l' := #[.val (.ref sb), .val (.long xl), .second, .val (.int cn), .val (.int (cn + r1_13))]) rfl) ?_
  refine own_go (fun _ => XS.aloadN X13.here hx rfl (hb hby d20_13) rfl rfl) ?_
  refine own_go (fun _ => XS.iload X13.here hx rfl (hb hby d20_14) rfl) ?_
  show ∃ t o, Steps p.tables e below (T13.setTop (mkF m 16 #[.val (.ref sb), .val (.long xl), .second, .val (.int cn), .val (.int (cn + r1_13))] [(.int (cn + r1_13)), (.ref sb)])) t ∧ _
  obtain ⟨cq14, q14, q14'⟩ := P1.cell
  obtain ⟨_, _, ⟨T14, L14, k14, n14⟩, -, X14, ⟨Lc14, hQ14, l14, y14, z14⟩, st14⟩ := X13.privateBack hx (y := (⟨"java/lang/AbstractStringBuilder", "ensureCapacityInternal", "(I)V"⟩ : MethodName)) hown (mvT hZ (hw _ (List.mem_of_getElem? (i := 73) rfl))) (mvT hZ w_74) (mvT hZ (own_selp (y := (⟨"java/lang/AbstractStringBuilder", "ensureCapacityInternal", "(I)V"⟩ : MethodName)) (hw _ (List.mem_of_getElem? (i := 76) rfl)) rfl w_75 w_74 (by decide))) (Cond.privateMethod_at (mvP hZ w_75 (args := #[]))) (mvT hZ w_77) (by decide) (backOf (W := 0) (rmEns0 l Z a0 hw [] sb vb kv cp us (cn + r1_13) h0 n0 Z0 P1 P2 P3 P5 P6 OLD (own_no f2 H13_0 hcp hq : ¬ ((0 : Int32) < ((cn + r1_13) - cp)))) hZ w_77 w_32 (by decide) (by decide)) (g := (mkF m 16 #[.val (.ref sb), .val (.long xl), .second, .val (.int cn), .val (.int (cn + r1_13))] [(.int (cn + r1_13)), (.ref sb)])) rfl (by rw [hml]; rfl) (Steps.refl _) (a := sb) (by rw [e13]; exact q14) q14' (argsL := [(.int (cn + r1_13))]) (rest := []) (lenOf pd__28I_29V rfl) rfl (by show 2 * 0 + _ ≤ _; exact Nat.le_of_eq rfl) (hb hby d20_16) (fun _ _ => ⟨rfl, e13, (by decide : 0 + 0 ≤ _), (by decide : 0 + 0 ≤ _)⟩)
  dsimp only [Pt.U, Pt.locs, Pt.cells, Pt.slots] at X14 l14 y14 z14 st14 hQ14
  rw [l14, y14, z14] at X14
  obtain ⟨rfl, Nq14, e14⟩ := hQ14
  have N14 := Fr.app N13 Nq14
  refine own_goT st14 ?_
  refine own_go (fun _ => XS.aloadN X14.here hx rfl (hb hby d20_19) rfl rfl) ?_
  show ∃ t o, Steps p.tables e below (T14.setTop (mkF m 20 #[.val (.ref sb), .val (.long xl), .second, .val (.int cn), .val (.int (cn + r1_13))] [(.ref sb)])) t ∧ _
  obtain ⟨cq15, kq15, q15a, q15b, q15c⟩ := isOf hZ e14 P1
  obtain ⟨_, _, ⟨T15, L15, k15, n15⟩, -, X15, ⟨Lc15, hQ15, l15, y15, z15⟩, st15⟩ := X14.virtualBack hx (y := (⟨"java/lang/AbstractStringBuilder", "isLatin1", "()Z"⟩ : MethodName)) (z := (⟨"java/lang/AbstractStringBuilder", "isLatin1", "()Z"⟩ : MethodName)) hown (mvT hZ (hw _ (List.mem_of_getElem? (i := 135) rfl))) (mvT hZ (hw _ (List.mem_of_getElem? (i := 136) rfl))) (notFace_of_selects (args := #[]) (mvT hZ w_138)) (mvT hZ w_138) (mvT hZ (hw _ (List.mem_of_getElem? (i := 137) rfl))) (by decide) (backOf (W := 0) (rmABL1 l Z a0 hw [] sb zc h0 n0 Z0 P3 OLD P7 hzc) hZ (hw _ (List.mem_of_getElem? (i := 139) rfl)) w_32 (by decide) (by decide)) q15a q15c (g := (mkF m 20 #[.val (.ref sb), .val (.long xl), .second, .val (.int cn), .val (.int (cn + r1_13))] [(.ref sb)])) rfl (by rw [hml]; rfl) (Steps.refl _) (argsL := []) (rest := []) (lenOf pd__28_29Z rfl) rfl (by show 2 * 0 + _ ≤ _; exact Nat.le_of_eq rfl) (hb hby d20_20) (fun _ _ => ⟨rfl, e14, (by decide : 0 + 0 ≤ _), (by decide : 0 + 0 ≤ _)⟩)
  dsimp only [Pt.U, Pt.locs, Pt.cells, Pt.slots] at X15 l15 y15 z15 st15 hQ15
  rw [l15, y15, z15] at X15
  obtain ⟨rfl, Nq15, e15⟩ := hQ15
  have N15 := Fr.app N14 Nq15
  refine own_goT st15 ?_
  show ∃ t o, Steps p.tables e below (T15.setTop (mkF m 23 #[.val (.ref sb), .val (.long xl), .second, .val (.int cn), .val (.int (cn + r1_13))] [(.int (1 : Int32))])) t ∧ _
  refine own_go (fun _ => XS.ifNo X15.here hx rfl (hb hby d20_23) rfl ((if0 _ _).trans (feq (by decide : ¬ ((1 : Int32) = (0 : Int32)))).1)) ?_
  refine own_go (fun _ => XS.lloadN X15.here hx rfl (hb hby d20_26) rfl) ?_
  refine own_go (fun _ => XS.iload X15.here hx rfl (hb hby d20_27) rfl) ?_
  refine own_go (fun _ => XS.aloadN X15.here hx rfl (hb hby d20_29) rfl rfl) ?_
  obtain ⟨T16, X16, e16, st16⟩ := getF X15 hx hZ hown (host := "") (Or.inl (hw _ (List.mem_of_getElem? (i := 38) rfl))) Via.refl e15 P2 (g := (mkF m 30 #[.val (.ref sb), .val (.long xl), .second, .val (.int cn), .val (.int (cn + r1_13))] [(.ref sb), (.int (cn + r1_13)), (.long xl)])) rfl rfl (hb hby d20_30)
  refine own_go st16 ?_
  show ∃ t o, Steps p.tables e below (T16.setTop (mkF m 33 #[.val (.ref sb), .val (.long xl), .second, .val (.int cn), .val (.int (cn + r1_13))] [(.ref vb), (.int (cn + r1_13)), (.long xl)])) t ∧ _
  have fad := own_fit.add f2 H13_0 (by have q := hq; have z := own_c250c hcp; omega)
  obtain ⟨_, _, ⟨T17, L17, k17, n17⟩, -, X17, ⟨Lc17, hQ17, l17, y17, z17⟩, st17⟩ := Jvm.LawKit.callS X16 hx (y := (⟨"java/lang/Long", "getChars", "(JI[B)I"⟩ : MethodName)) hown (mvT hZ (hw _ (List.mem_of_getElem? (i := 140) rfl))) (mvT hZ (hw _ (List.mem_of_getElem? (i := 141) rfl))) (mvT hZ w_132) (mvT hZ w_142) (by decide) (backOf (W := 0) (rmGc l Z a0 hw [] xl (cn + r1_13) vb kv cp us gd ge kd ke h0 n0 Z0 P6 OLD P8 P9 P10 P11 (by have q := fad; unfold own_fit at q; rw [List.length_append] at q; exact q) (by have q := hq; have z := hcp.2.1; simp only [Int32.toNatClampNeg] at q; omega) gvb) hZ w_142 w_132 (by decide) (by decide)) (g := (mkF m 33 #[.val (.ref sb), .val (.long xl), .second, .val (.int cn), .val (.int (cn + r1_13))] [(.ref vb), (.int (cn + r1_13)), (.long xl)])) rfl (by rw [hml]; rfl) (argsL := [(.long xl), (.int (cn + r1_13)), (.ref vb)]) (rest := []) (lenOf pd__28JI_5bB_29I rfl) rfl (by show 2 * 0 + _ ≤ _; exact Nat.le_of_eq rfl) (hb hby d20_33) (fun _ _ => ⟨rfl, e16, (by decide : 0 + 0 ≤ _), (by decide : 0 + 0 ≤ _)⟩)
  dsimp only [Pt.U, Pt.locs, Pt.cells, Pt.slots] at X17 l17 y17 z17 st17 hQ17
  rw [l17, y17, z17] at X17
  obtain ⟨r1_17, rfl, Nq17, Kp17, G17_0⟩ := hQ17
  have N17 := Fr.app N15 Nq17
  refine own_go st17 ?_
  have le_17 : h0.size ≤ T17.heap.size := Kp17.1
  have K17 : Keep h0 T17.heap [sb, vb] := Keep.trans (Keep.refl h0 [sb, vb]) Kp17 (allS (Or.inl (List.mem_of_getElem? (i := 1) rfl)) all0)
  refine own_go (fun _ => XS.pop X17.here hx rfl (hb hby d20_36) rfl rfl) ?_
  refine own_go (fun _ => XS.goto X17.here hx rfl (pc0 := 37) (pc' := 52) rfl (hb hby d20_37) (by decide) (by decide)) ?_
  refine own_go (fun _ => XS.aloadN X17.here hx rfl (hb hby d20_52) rfl rfl) ?_
  refine own_go (fun _ => XS.iload X17.here hx rfl (hb hby d20_53) rfl) ?_
  have F18 := (Exa.keep P1 Kp17)
  have F19 := (Fld.keep P4 Kp17 (ninS hne nin0))
  obtain ⟨T20, h20, X20, e20, W20, st20⟩ := putF X17 hx hZ hown (host := "") (Or.inl w_71) Via.refl rfl F19 F18 (Or.inl w_72) (hw _ (List.mem_of_getElem? (i := 23) rfl)) (ty := .int) (by decide) rfl rfl (g := (mkF m 55 #[.val (.ref sb), .val (.long xl), .second, .val (.int cn), .val (.int (cn + r1_13))] [(.int (cn + r1_13)), (.ref sb)])) rfl rfl (hb hby d20_55)
  refine own_go st20 ?_
  have le_20 : T17.heap.size ≤ h20.size := Nat.le_of_eq W20.size.symm
  have K20 : Keep h0 h20 [sb, vb] := Keep.wr K17 W20 (Or.inl (List.mem_of_getElem? (i := 0) rfl))
  have N20 := Fr.snoc X20 N17 gsb
  have Fw20 := Fld.same W20 F19
  refine own_go (fun _ => XS.aloadN X20.here hx rfl (hb hby d20_58) rfl rfl) ?_
  show ∃ t o, Steps p.tables e below (T20.setTop (mkF m 59 #[.val (.ref sb), .val (.long xl), .second, .val (.int cn), .val (.int (cn + r1_13))] [(.ref sb)])) t ∧ _
  have F21 := (Exa.wr W20 F18)
  have F22 := (Fld.other W20 (Fld.keep P2 Kp17 (ninS hne nin0)) (Or.inr (slot_ne (a0 := a0) (Or.inl (hw _ (List.mem_of_getElem? (i := 39) rfl))) (Or.inl w_72) (by decide) (t := (.array .byte)) (t' := .int) (by decide) (by decide))))
  have F23 := (Fld.other W20 (Fld.keep P3 Kp17 (ninS hne nin0)) (Or.inr (slot_ne (a0 := a0) (Or.inl (hw _ (List.mem_of_getElem? (i := 41) rfl))) (Or.inl w_72) (by decide) (t := .byte) (t' := .int) (by decide) (by decide))))
  have F24 := (Exa.wr W20 (Exa.keep P5 Kp17))
  have ne25 : vb ≠ sb := own_ne (by omega)
  have F26 := (Arv.other G17_0 W20 ne25)
  obtain ⟨fs, hr, hrun, hended, hW, hsame⟩ := X20.leave (v := some (.ref sb)) (fun h => by rw [Bd.returns] at h; cases h)
  refine ⟨_, _, ?_, hrun, hended, _, _, rfl, ?_, ⟨_, rfl⟩, hW, hsame.mono (by decide) (by decide)⟩
  · jvm_step X20.here [X20.here.top, hx, (hb hby d20_59), X20.method', Bd.returns, Value.isRef, FieldType.isReference]
    first | (intro acts; rw [hr _ acts rfl rfl rfl]) | rw [hr _ _ rfl rfl rfl]
    exact Steps.refl _
  · show Q_rmABj0 Z _ _ _ _ _ _ _ _ _ _ _ _ h0 n0 _ T20.heap _
    rw [e20]
    exact ⟨(cn + r1_13), rfl, N20, K20, F21, F22, F23, Fw20, F24, F26, (own_cap.app hcp hq), fad⟩
theorem ef_rmSBj0 (m : MethodId) (x0 : Nat) (x1 : Int64) : entryFrame m #[(.ref x0), (.long x1)] 3 = mkF m 0 #[.val (.ref x0), .val (.long x1), .second] [] := by first | (simp [entryFrame, mkF, argsToLocals, Value.category]; done) | rfl
def Q_rmSBj0 (Z : State) (sb : Nat) (vb : Nat) (kv : ClassId) (cp : Int32) (us : List Value) (cn : Int32) (xl : Int64) (zc : Int32) (gd : Nat) (ge : Nat) (kd : ClassId) (ke : ClassId) (h0 : Heap) (n0 : Nat) (v : Option Value) (h : Heap) (L : List Loc) : Prop := ∃ (cn2 : Int32), v = some (.ref sb) ∧ Fr n0 L ∧ Keep h0 h [sb, vb] ∧ Exa Z h sb "java/lang/StringBuilder" ∧ Fld Z h sb "java/lang/AbstractStringBuilder" "value" "[B" (.ref vb) ∧ Fld Z h sb "java/lang/AbstractStringBuilder" "coder" "B" (.int (0 : Int32)) ∧ Fld Z h sb "java/lang/AbstractStringBuilder" "count" "I" (.int cn2) ∧ Exa Z h vb "[B" ∧ Arv Z h vb kv .byte cp (us ++ own_dec xl) (.int (0 : Int32)) ∧ (own_cap (us ++ own_dec xl) cp) ∧ (own_fit (us ++ own_dec xl) cn2)
set_option maxRecDepth 65536 in
set_option maxHeartbeats 40000000 in
theorem rmSBj0 (l : Launch) (Z : State) (a0 : Array Value) (hw : ∀ d ∈ tables_1, d.before a0 Z = true) (ws : List Jvm.Cond) (sb : Nat) (vb : Nat) (kv : ClassId) (cp : Int32) (us : List Value) (cn : Int32) (xl : Int64) (zc : Int32) (gd : Nat) (ge : Nat) (kd : ClassId) (ke : ClassId) (h0 : Heap) (n0 : Nat) (Z0 : n0 ≤ h0.size) (P1 : Exa Z h0 sb "java/lang/StringBuilder") (P2 : Fld Z h0 sb "java/lang/AbstractStringBuilder" "value" "[B" (.ref vb)) (P3 : Fld Z h0 sb "java/lang/AbstractStringBuilder" "coder" "B" (.int (0 : Int32))) (P4 : Fld Z h0 sb "java/lang/AbstractStringBuilder" "count" "I" (.int cn)) (P5 : Exa Z h0 vb "[B") (P6 : Arv Z h0 vb kv .byte cp us (.int (0 : Int32))) (OLD : Old Z n0 h0) (P7 : Sta Z Z.heap "java/lang/String" "COMPACT_STRINGS" "Z" (.int zc)) (P8 : Sta Z Z.heap "java/lang/Integer" "DigitOnes" "[B" (.ref gd)) (P9 : Sta Z Z.heap "java/lang/Integer" "DigitTens" "[B" (.ref ge)) (P10 : Arv Z Z.heap gd kd .byte (100 : Int32) own_ones (.int (0 : Int32))) (P11 : Arv Z Z.heap ge ke .byte (100 : Int32) own_tens (.int (0 : Int32))) (hzc : ¬ (zc = (0 : Int32))) (f2 : own_fit us cn) (hq : us.length + (own_dec xl).length ≤ cp.toNatClampNeg) (hcp : own_cap us cp) (gsb : n0 ≤ sb) (gvb : n0 ≤ vb) (hne : sb ≠ vb) :
    MetFree l (⟨"java/lang/StringBuilder", "append", "(J)Ljava/lang/StringBuilder;"⟩ : MethodName) (head1 (Jvm.Cond.code (⟨"java/lang/StringBuilder", "append", "(J)Ljava/lang/StringBuilder;"⟩ : MethodName) jdk_67_method_16_code 3 (some (.object "java/lang/StringBuilder")) :: ws) ({ frames := 2, cells := 0, slots := 0, locals := 38 } : Room)) (fun a U => a = #[(.ref sb), (.long xl)] ∧ Z.Warmed39 U.vm ∧ U.heap = h0) (fun _ _ _ _ _ => True) (fun _ U o U' => ∃ v L, o = .returned v ∧ Q_rmSBj0 Z sb vb kv cp us cn xl zc gd ge kd ke h0 n0 v U'.heap L ∧ FrameEnd U o U' L ({ frames := 2, cells := 0, slots := 0, locals := 38 } : Room).cells ({ frames := 2, cells := 0, slots := 0, locals := 38 } : Room).slots) := by
  refine MetFree.of_bodySF (plainFor_of_name pn_java_lang_StringBuilder) hisR ?_
  intro p e s m args below meth c s₁ Bd hml0 hP hK
  obtain ⟨rfl, hZ, hh⟩ := hP
  have hx := Bd.exec
  have hby := Bd.bytes
  have hml : c.maxLocals = 3 := hml0
  have hown : s.vm.findClass "java/lang/StringBuilder" = some m.cls := findClass_of_methodNamed Bd.named
  have hnm := (name_of_methodNamed Bd.named Bd.method).1
  have X0 : Stand p l e ({ frames := 2, cells := 0, slots := 0, locals := 38 } : Room) s m #[(.ref sb), (.long xl)] below meth c s₁ [] 0 0 := Stand.of_body Bd
  have e0 : s₁.heap = h0 := by rw [← hh, Bd.state]; rfl
  have N0 := Fr.nil n0
  have pre0 : ∀ t, Steps p.tables e below (s₁.setTop (mkF m 0 #[.val (.ref sb), .val (.long xl), .second] [])) t → Steps p.tables e below (s₁.setTop (entryFrame m #[(.ref sb), (.long xl)] 3)) t := fun t k => castTop (ef_rmSBj0 m sb xl) k
  have w_127 := hw _ (List.mem_of_getElem? (i := 127) rfl)
  have w_129 := hw _ (List.mem_of_getElem? (i := 129) rfl)
  have oz := OLD.1
  have lt_gd : gd < Z.heap.size := P10.lt
  have lt_ge : ge < Z.heap.size := P11.lt
  have lt_sb : sb < h0.size := P1.lt
  have lt_vb : vb < h0.size := P5.lt
  refine own_go (B := s₁.setTop (mkF m 0 #[.val (.ref sb), .val (.long xl), .second] [])) pre0 ?_
  show ∃ t o, Steps p.tables e below (s₁.setTop (mkF m 0 #[.val (.ref sb), .val (.long xl), .second] [])) t ∧ _
  refine own_go (fun _ => XS.aloadN X0.here hx rfl (hb hby d19_0) rfl rfl) ?_
  refine own_go (fun _ => XS.lloadN X0.here hx rfl (hb hby d19_1) rfl) ?_
  show ∃ t o, Steps p.tables e below (s₁.setTop (mkF m 2 #[.val (.ref sb), .val (.long xl), .second] [(.long xl), (.ref sb)])) t ∧ _
  obtain ⟨_, _, ⟨T12, L12, k12, n12⟩, -, X12, ⟨Lc12, hQ12, l12, y12, z12⟩, st12⟩ := superBack X0 hx hZ (y := (⟨"java/lang/AbstractStringBuilder", "append", "(J)Ljava/lang/AbstractStringBuilder;"⟩ : MethodName)) hown (hw _ (List.mem_of_getElem? (i := 126) rfl)) (own_same (y := (⟨"java/lang/AbstractStringBuilder", "append", "(J)Ljava/lang/AbstractStringBuilder;"⟩ : MethodName)) (hw _ (List.mem_of_getElem? (i := 76) rfl)) rfl w_127 (by decide)) w_127 (hw _ (List.mem_of_getElem? (i := 55) rfl)) (by decide) (backOf (W := 0) (rmABj0 l Z a0 hw [] sb vb kv cp us cn xl zc gd ge kd ke h0 n0 Z0 P1 P2 P3 P4 P5 P6 OLD P7 P8 P9 P10 P11 hzc f2 hq hcp gsb gvb hne) hZ w_129 (hw _ (List.mem_of_getElem? (i := 32) rfl)) (by decide) (by decide)) e0 (Ins.self P1) (g := (mkF m 2 #[.val (.ref sb), .val (.long xl), .second] [(.long xl), (.ref sb)])) rfl (by rw [hml]; rfl) w_129 (argsL := [(.long xl)]) (rest := []) (lenOf pd__28J_29Ljava_2flang_2fAbstractStringBuilder_3b rfl) rfl (by show 2 * 0 + _ ≤ _; exact Nat.le_of_eq rfl) (hb hby d19_2) (fun _ _ => ⟨rfl, e0, (by decide : 0 + 0 ≤ _), (by decide : 0 + 0 ≤ _)⟩)
  dsimp only [Pt.U, Pt.locs, Pt.cells, Pt.slots] at X12 l12 y12 z12 st12 hQ12
  rw [l12, y12, z12] at X12
  obtain ⟨cn2_12, rfl, Nq12, Kp12, G12_0, G12_1, G12_2, G12_3, G12_4, G12_5, H12_0, H12_1⟩ := hQ12
  have N12 := Fr.app N0 Nq12
  refine own_goT st12 ?_
  have le_12 : h0.size ≤ T12.heap.size := Kp12.1
  have K12 : Keep h0 T12.heap [sb, vb] := Keep.trans (Keep.refl h0 [sb, vb]) Kp12 (allS (Or.inl (List.mem_of_getElem? (i := 0) rfl)) (allS (Or.inl (List.mem_of_getElem? (i := 1) rfl)) all0))
  refine own_go (fun _ => XS.pop X12.here hx rfl (hb hby d19_5) rfl rfl) ?_
  refine own_go (fun _ => XS.aloadN X12.here hx rfl (hb hby d19_6) rfl rfl) ?_
  show ∃ t o, Steps p.tables e below (T12.setTop (mkF m 7 #[.val (.ref sb), .val (.long xl), .second] [(.ref sb)])) t ∧ _
  obtain ⟨fs, hr, hrun, hended, hW, hsame⟩ := X12.leave (v := some (.ref sb)) (fun h => by rw [Bd.returns] at h; cases h)
  refine ⟨_, _, ?_, hrun, hended, _, _, rfl, ?_, ⟨_, rfl⟩, hW, hsame.mono (by decide) (by decide)⟩
  · jvm_step X12.here [X12.here.top, hx, (hb hby d19_7), X12.method', Bd.returns, Value.isRef, FieldType.isReference]
    first | (intro acts; rw [hr _ acts rfl rfl rfl]) | rw [hr _ _ rfl rfl rfl]
    exact Steps.refl _
  · show Q_rmSBj0 Z _ _ _ _ _ _ _ _ _ _ _ _ h0 n0 _ T12.heap _
    exact ⟨cn2_12, rfl, N12, K12, G12_0, G12_1, G12_2, G12_3, G12_4, G12_5, H12_0, H12_1⟩
theorem ef_rmLeq (m : MethodId) (x0 : Nat) (x1 : Nat) : entryFrame m #[(.ref x0), (.ref x1)] 3 = mkF m 0 #[.val (.ref x0), .val (.ref x1), .unset] [] := by first | (simp [entryFrame, mkF, argsToLocals, Value.category]; done) | rfl
theorem d34_0 : decode jdk_43_method_13_code 0 = .ok (.aload_n 0, 1) := by decide +kernel
theorem d34_1 : decode jdk_43_method_13_code 1 = .ok (.arraylength, 1) := by decide +kernel
theorem d34_2 : decode jdk_43_method_13_code 2 = .ok (.aload_n 1, 1) := by decide +kernel
theorem d34_3 : decode jdk_43_method_13_code 3 = .ok (.arraylength, 1) := by decide +kernel
theorem d34_4 : decode jdk_43_method_13_code 4 = .ok (.if_icmp .ne 30, 3) := by decide +kernel
theorem d34_9 : decode jdk_43_method_13_code 9 = .ok (.iload_n 2, 1) := by decide +kernel
theorem d34_10 : decode jdk_43_method_13_code 10 = .ok (.aload_n 0, 1) := by decide +kernel
theorem d34_11 : decode jdk_43_method_13_code 11 = .ok (.arraylength, 1) := by decide +kernel
theorem d34_12 : decode jdk_43_method_13_code 12 = .ok (.if_icmp .ge 20, 3) := by decide +kernel
theorem d34_15 : decode jdk_43_method_13_code 15 = .ok (.aload_n 0, 1) := by decide +kernel
theorem d34_16 : decode jdk_43_method_13_code 16 = .ok (.iload_n 2, 1) := by decide +kernel
theorem d34_17 : decode jdk_43_method_13_code 17 = .ok (.baload, 1) := by decide +kernel
theorem d34_18 : decode jdk_43_method_13_code 18 = .ok (.aload_n 1, 1) := by decide +kernel
theorem d34_19 : decode jdk_43_method_13_code 19 = .ok (.iload_n 2, 1) := by decide +kernel
theorem d34_20 : decode jdk_43_method_13_code 20 = .ok (.baload, 1) := by decide +kernel
theorem d34_21 : decode jdk_43_method_13_code 21 = .ok (.if_icmp .eq 5, 3) := by decide +kernel
theorem d34_26 : decode jdk_43_method_13_code 26 = .ok (.iinc 2 1, 3) := by decide +kernel
theorem d34_29 : decode jdk_43_method_13_code 29 = .ok (.goto (-20), 3) := by decide +kernel
theorem d34_24 : decode jdk_43_method_13_code 24 = .ok (.iconst 0, 1) := by decide +kernel
theorem d34_25 : decode jdk_43_method_13_code 25 = .ok (.ireturn, 1) := by decide +kernel
theorem d34_32 : decode jdk_43_method_13_code 32 = .ok (.iconst 1, 1) := by decide +kernel
theorem d34_33 : decode jdk_43_method_13_code 33 = .ok (.ireturn, 1) := by decide +kernel
theorem d34_7 : decode jdk_43_method_13_code 7 = .ok (.iconst 0, 1) := by decide +kernel
theorem d34_8 : decode jdk_43_method_13_code 8 = .ok (.istore_n 2, 1) := by decide +kernel
theorem d34_34 : decode jdk_43_method_13_code 34 = .ok (.iconst 0, 1) := by decide +kernel
theorem d34_35 : decode jdk_43_method_13_code 35 = .ok (.ireturn, 1) := by decide +kernel
theorem pn_java_lang_StringLatin1 : plainName "java/lang/StringLatin1" = true := by first | (simp [plainName, overriddenIn]; done) | decide +kernel
def Q_rmLeq (Z : State) (ta : Nat) (ka : ClassId) (na : Int32) (va : List Value) (tb : Nat) (kb : ClassId) (nb : Int32) (wb : List Value) (h0 : Heap) (n0 : Nat) (v : Option Value) (h : Heap) (L : List Loc) : Prop := ∃ (r1 : Int32), v = some (.int r1) ∧ Fr n0 L ∧ h = h0 ∧ ((r1 = (1 : Int32) ∧ va = wb) ∨ (r1 = (0 : Int32) ∧ ¬ (va = wb)))
set_option maxRecDepth 65536 in
set_option maxHeartbeats 40000000 in
theorem rmLeq (l : Launch) (Z : State) (a0 : Array Value) (hw : ∀ d ∈ tables_1, d.before a0 Z = true) (ws : List Jvm.Cond) (ta : Nat) (ka : ClassId) (na : Int32) (va : List Value) (tb : Nat) (kb : ClassId) (nb : Int32) (wb : List Value) (h0 : Heap) (n0 : Nat) (Z0 : n0 ≤ h0.size) (P1 : Arv Z h0 ta ka .byte na va (.int (0 : Int32))) (P2 : Arv Z h0 tb kb .byte nb wb (.int (0 : Int32))) (OLD : Old Z n0 h0) (fa : own_fit va na) (fb : own_fit wb nb) :
    MetFree l (⟨"java/lang/StringLatin1", "equals", "([B[B)Z"⟩ : MethodName) (head1 (Jvm.Cond.code (⟨"java/lang/StringLatin1", "equals", "([B[B)Z"⟩ : MethodName) jdk_43_method_13_code 3 (some .boolean) :: ws) ({ frames := 0, cells := 0, slots := 0, locals := 0 } : Room)) (fun a U => a = #[(.ref ta), (.ref tb)] ∧ Z.Warmed39 U.vm ∧ U.heap = h0) (fun _ _ _ _ _ => True) (fun _ U o U' => ∃ v L, o = .returned v ∧ Q_rmLeq Z ta ka na va tb kb nb wb h0 n0 v U'.heap L ∧ FrameEnd U o U' L ({ frames := 0, cells := 0, slots := 0, locals := 0 } : Room).cells ({ frames := 0, cells := 0, slots := 0, locals := 0 } : Room).slots) := by
  refine MetFree.of_bodySF (plainFor_of_name pn_java_lang_StringLatin1) hisR ?_
  intro p e s m args below meth c s₁ Bd hml0 hP hK
  obtain ⟨rfl, hZ, hh⟩ := hP
  have hx := Bd.exec
  have hby := Bd.bytes
  have hml : c.maxLocals = 3 := hml0
  have hown : s.vm.findClass "java/lang/StringLatin1" = some m.cls := findClass_of_methodNamed Bd.named
  have hnm := (name_of_methodNamed Bd.named Bd.method).1
  have X0 : Stand p l e ({ frames := 0, cells := 0, slots := 0, locals := 0 } : Room) s m #[(.ref ta), (.ref tb)] below meth c s₁ [] 0 0 := Stand.of_body Bd
  have e0 : s₁.heap = h0 := by rw [← hh, Bd.state]; rfl
  have N0 := Fr.nil n0
  have pre0 : ∀ t, Steps p.tables e below (s₁.setTop (mkF m 0 #[.val (.ref ta), .val (.ref tb), .unset] [])) t → Steps p.tables e below (s₁.setTop (entryFrame m #[(.ref ta), (.ref tb)] 3)) t := fun t k => castTop (ef_rmLeq m ta tb) k
  have oz := OLD.1
  have lt_ta : ta < h0.size := P1.lt
  have lt_tb : tb < h0.size := P2.lt
  refine own_go (B := s₁.setTop (mkF m 0 #[.val (.ref ta), .val (.ref tb), .unset] [])) pre0 ?_
  show ∃ t o, Steps p.tables e below (s₁.setTop (mkF m 0 #[.val (.ref ta), .val (.ref tb), .unset] [])) t ∧ _
  refine own_go (fun _ => XS.aloadN X0.here hx rfl (hb hby d34_0) rfl rfl) ?_
  obtain ⟨cl3, Ar3, q3, S3, N3, H3, G3⟩ := id P1
  have ln3 : cl3.slots.size.toInt32 = na := len_of S3 N3
  have al3 := X0.arraylength hx (by rw [e0]; exact Ar3.1) (State.isArrayOf_alike hZ.alike Ar3.2.1) (g := (mkF m 1 #[.val (.ref ta), .val (.ref tb), .unset] [(.ref ta)])) rfl rfl (hb hby d34_1)
  rw [ln3] at al3
  refine own_go al3 ?_
  refine own_go (fun _ => XS.aloadN X0.here hx rfl (hb hby d34_2) rfl rfl) ?_
  obtain ⟨cl4, Ar4, q4, S4, N4, H4, G4⟩ := id P2
  have ln4 : cl4.slots.size.toInt32 = nb := len_of S4 N4
  have al4 := X0.arraylength hx (by rw [e0]; exact Ar4.1) (State.isArrayOf_alike hZ.alike Ar4.2.1) (g := (mkF m 3 #[.val (.ref ta), .val (.ref tb), .unset] [(.ref tb), (.int na)])) rfl rfl (hb hby d34_3)
  rw [ln4] at al4
  refine own_go al4 ?_
  show ∃ t o, Steps p.tables e below (s₁.setTop (mkF m 4 #[.val (.ref ta), .val (.ref tb), .unset] [(.int nb), (.int na)])) t ∧ _
  by_cases hc5 : na = nb
  · refine own_go (fun _ => XS.icmpNo X0.here hx rfl (hb hby d34_4) rfl (teq hc5).2) ?_
    refine own_nameP (fun P eP => ?_)
    have loop9 : ∀ (r : Nat) (ii : Int32) (hI : own_eqi va wb ii) (hr : (va.length - ii.toInt.toNat) = r), ∃ t o, Steps p.tables e below (s₁.setTop (mkF m 9 #[.val (.ref ta), .val (.ref tb), .val (.int ii)] [])) t ∧ P t o := by
      intro r
      induction r using Nat.strongRecOn with
      | _ r ih9 =>
        intro ii hI hr
        show ∃ t o, Steps p.tables e below (s₁.setTop (mkF m 9 #[.val (.ref ta), .val (.ref tb), .val (.int ii)] [])) t ∧ _
        refine own_go (fun _ => XS.iloadN X0.here hx rfl (hb hby d34_9) rfl) ?_
        refine own_go (fun _ => XS.aloadN X0.here hx rfl (hb hby d34_10) rfl rfl) ?_
        obtain ⟨cl6, Ar6, q6, S6, N6, H6, G6⟩ := id P1
        have ln6 : cl6.slots.size.toInt32 = na := len_of S6 N6
        have al6 := X0.arraylength hx (by rw [e0]; exact Ar6.1) (State.isArrayOf_alike hZ.alike Ar6.2.1) (g := (mkF m 11 #[.val (.ref ta), .val (.ref tb), .val (.int ii)] [(.ref ta), (.int ii)])) rfl rfl (hb hby d34_11)
        rw [ln6] at al6
        refine own_go al6 ?_
        show ∃ t o, Steps p.tables e below (s₁.setTop (mkF m 12 #[.val (.ref ta), .val (.ref tb), .val (.int ii)] [(.int na), (.int ii)])) t ∧ _
        by_cases hc7 : ii < na
        · refine own_go (fun _ => XS.icmpNo X0.here hx rfl (hb hby d34_12) rfl (tlt hc7).2.1) ?_
          have hin := own_eqin fa hI hc7
          have hinb : ¬ ii < (0 : Int32) ∧ ii < nb := hc5 ▸ hin
          obtain ⟨xa, hxa⟩ := own_arvI P1 hin
          obtain ⟨xb, hxb⟩ := own_arvI P2 hinb
          refine own_go (fun _ => XS.aloadN X0.here hx rfl (hb hby d34_15) rfl rfl) ?_
          refine own_go (fun _ => XS.iloadN X0.here hx rfl (hb hby d34_16) rfl) ?_
          obtain ⟨cl8, Ar8, q8, S8, N8, H8, G8⟩ := id P1
          have hin8 : ¬ (ii < 0 ∨ cl8.slots.size ≤ (ii).toNatClampNeg) := inb_of S8 hin
          have hat8 : cl8.slots[(ii).toNatClampNeg]? = some (.int xa) := Has.at H8 hin8 hxa
          refine own_go (fun _ => X0.baloadBytes hx (j := ii) (v := (.int xa)) (by rw [e0]; exact Ar8.1) (State.isArrayOf_alike hZ.alike Ar8.2.1) Ar8.2.2 hin8 hat8 (g := (mkF m 17 #[.val (.ref ta), .val (.ref tb), .val (.int ii)] [(.int ii), (.ref ta)])) rfl rfl (hb hby d34_17) _) ?_
          refine own_go (fun _ => XS.aloadN X0.here hx rfl (hb hby d34_18) rfl rfl) ?_
          refine own_go (fun _ => XS.iloadN X0.here hx rfl (hb hby d34_19) rfl) ?_
          obtain ⟨cl9, Ar9, q9, S9, N9, H9, G9⟩ := id P2
          have hin9 : ¬ (ii < 0 ∨ cl9.slots.size ≤ (ii).toNatClampNeg) := inb_of S9 hinb
          have hat9 : cl9.slots[(ii).toNatClampNeg]? = some (.int xb) := Has.at H9 hin9 hxb
          refine own_go (fun _ => X0.baloadBytes hx (j := ii) (v := (.int xb)) (by rw [e0]; exact Ar9.1) (State.isArrayOf_alike hZ.alike Ar9.2.1) Ar9.2.2 hin9 hat9 (g := (mkF m 20 #[.val (.ref ta), .val (.ref tb), .val (.int ii)] [(.int ii), (.ref tb), (.int xa)])) rfl rfl (hb hby d34_20) _) ?_
          show ∃ t o, Steps p.tables e below (s₁.setTop (mkF m 21 #[.val (.ref ta), .val (.ref tb), .val (.int ii)] [(.int xb), (.int xa)])) t ∧ _
          by_cases hc10 : xa = xb
          · refine own_go (fun _ => XS.icmpYes X0.here hx rfl (pc0 := 21) (pc' := 26) rfl (hb hby d34_21) rfl (teq hc10).1 (by decide) (by decide)) ?_
            refine own_go (fun _ => XS.iinc X0.here hx rfl (hb hby d34_26) rfl (l' := #[.val (.ref ta), .val (.ref tb), .val (.int (ii + (1 : Int32)))]) rfl) ?_
            refine own_go (fun _ => XS.goto X0.here hx rfl (pc0 := 29) (pc' := 9) rfl (hb hby d34_29) (by decide) (by decide)) ?_
            show ∃ t o, Steps p.tables e below (s₁.setTop (mkF m 9 #[.val (.ref ta), .val (.ref tb), .val (.int (ii + (1 : Int32)))] [])) t ∧ _
            exact ih9 _ (by have q := own_eqm fa hI.1 hc7; omega) (ii + (1 : Int32)) (own_eqiS fa hI hc7 hxa hxb hc10) rfl
          · refine own_go (fun _ => XS.icmpNo X0.here hx rfl (hb hby d34_21) rfl (feq hc10).1) ?_
            refine own_go (fun _ => XS.iconst X0.here hx rfl (hb hby d34_24)) ?_
            show ∃ t o, Steps p.tables e below (s₁.setTop (mkF m 25 #[.val (.ref ta), .val (.ref tb), .val (.int ii)] [(.int (0 : Int32))])) t ∧ _
            subst eP
            obtain ⟨fs, hr, hrun, hended, hW, hsame⟩ := X0.leave (v := some (.int (0 : Int32))) (fun h => by rw [Bd.returns] at h; cases h)
            refine ⟨_, _, ?_, hrun, hended, _, _, rfl, ?_, ⟨_, rfl⟩, hW, hsame.mono (by decide) (by decide)⟩
            · exact retN X0 hx (t := .boolean) Bd.returns (by simp) (hb hby d34_25) hr
            · show Q_rmLeq Z _ _ _ _ _ _ _ _ h0 n0 _ s₁.heap _
              rw [e0]
              exact ⟨(0 : Int32), rfl, N0, rfl, (Or.inr ⟨rfl, own_eqX hxa hxb hc10⟩)⟩
        · refine own_go (fun _ => XS.icmpYes X0.here hx rfl (pc0 := 12) (pc' := 32) rfl (hb hby d34_12) rfl (flt hc7).2.1 (by decide) (by decide)) ?_
          refine own_go (fun _ => XS.iconst X0.here hx rfl (hb hby d34_32)) ?_
          show ∃ t o, Steps p.tables e below (s₁.setTop (mkF m 33 #[.val (.ref ta), .val (.ref tb), .val (.int ii)] [(.int (1 : Int32))])) t ∧ _
          subst eP
          obtain ⟨fs, hr, hrun, hended, hW, hsame⟩ := X0.leave (v := some (.int (1 : Int32))) (fun h => by rw [Bd.returns] at h; cases h)
          refine ⟨_, _, ?_, hrun, hended, _, _, rfl, ?_, ⟨_, rfl⟩, hW, hsame.mono (by decide) (by decide)⟩
          · exact retN X0 hx (t := .boolean) Bd.returns (by simp) (hb hby d34_33) hr
          · show Q_rmLeq Z _ _ _ _ _ _ _ _ h0 n0 _ s₁.heap _
            rw [e0]
            exact ⟨(1 : Int32), rfl, N0, rfl, (Or.inl ⟨rfl, own_eqY fa fb hc5 hI hc7⟩)⟩
    refine own_go (fun _ => XS.iconst X0.here hx rfl (hb hby d34_7)) ?_
    refine own_go (fun _ => XS.istoreN X0.here hx rfl (hb hby d34_8) rfl (l' := #[.val (.ref ta), .val (.ref tb), .val (.int (0 : Int32))]) rfl) ?_
    show ∃ t o, Steps p.tables e below (s₁.setTop (mkF m 9 #[.val (.ref ta), .val (.ref tb), .val (.int (0 : Int32))] [])) t ∧ _
    exact loop9 _ (0 : Int32) (own_eqi0 va wb) rfl
  · refine own_go (fun _ => XS.icmpYes X0.here hx rfl (pc0 := 4) (pc' := 34) rfl (hb hby d34_4) rfl (feq hc5).2 (by decide) (by decide)) ?_
    refine own_go (fun _ => XS.iconst X0.here hx rfl (hb hby d34_34)) ?_
    show ∃ t o, Steps p.tables e below (s₁.setTop (mkF m 35 #[.val (.ref ta), .val (.ref tb), .unset] [(.int (0 : Int32))])) t ∧ _
    obtain ⟨fs, hr, hrun, hended, hW, hsame⟩ := X0.leave (v := some (.int (0 : Int32))) (fun h => by rw [Bd.returns] at h; cases h)
    refine ⟨_, _, ?_, hrun, hended, _, _, rfl, ?_, ⟨_, rfl⟩, hW, hsame.mono (by decide) (by decide)⟩
    · exact retN X0 hx (t := .boolean) Bd.returns (by simp) (hb hby d34_35) hr
    · show Q_rmLeq Z _ _ _ _ _ _ _ _ h0 n0 _ s₁.heap _
      rw [e0]
      exact ⟨(0 : Int32), rfl, N0, rfl, (Or.inr ⟨rfl, own_eqN fa fb hc5⟩)⟩
theorem ef_rmEqG (m : MethodId) (x0 : Nat) (x1 : Nat) : entryFrame m #[(.ref x0), (.ref x1)] 3 = mkF m 0 #[.val (.ref x0), .val (.ref x1), .unset] [] := by first | (simp [entryFrame, mkF, argsToLocals, Value.category]; done) | rfl
theorem d33_0 : decode jdk_42_method_66_code 0 = .ok (.aload_n 0, 1) := by decide +kernel
theorem d33_1 : decode jdk_42_method_66_code 1 = .ok (.aload_n 1, 1) := by decide +kernel
theorem d33_2 : decode jdk_42_method_66_code 2 = .ok (.if_acmp .ne 5, 3) := by decide +kernel
theorem d33_7 : decode jdk_42_method_66_code 7 = .ok (.aload_n 1, 1) := by decide +kernel
theorem d33_8 : decode jdk_42_method_66_code 8 = .ok (.instanceof 10, 3) := by decide +kernel
theorem d33_11 : decode jdk_42_method_66_code 11 = .ok (.ifCond .eq 43, 3) := by decide +kernel
theorem d33_14 : decode jdk_42_method_66_code 14 = .ok (.aload_n 1, 1) := by decide +kernel
theorem d33_15 : decode jdk_42_method_66_code 15 = .ok (.checkcast 10, 3) := by decide +kernel
theorem d33_18 : decode jdk_42_method_66_code 18 = .ok (.astore_n 2, 1) := by decide +kernel
theorem d33_19 : decode jdk_42_method_66_code 19 = .ok (.getstatic 38, 3) := by decide +kernel
theorem d33_22 : decode jdk_42_method_66_code 22 = .ok (.ifCond .eq 14, 3) := by decide +kernel
theorem d33_25 : decode jdk_42_method_66_code 25 = .ok (.aload_n 0, 1) := by decide +kernel
theorem d33_26 : decode jdk_42_method_66_code 26 = .ok (.getfield 15, 3) := by decide +kernel
theorem d33_29 : decode jdk_42_method_66_code 29 = .ok (.aload_n 2, 1) := by decide +kernel
theorem d33_30 : decode jdk_42_method_66_code 30 = .ok (.getfield 15, 3) := by decide +kernel
theorem d33_33 : decode jdk_42_method_66_code 33 = .ok (.if_icmp .ne 21, 3) := by decide +kernel
theorem d33_36 : decode jdk_42_method_66_code 36 = .ok (.aload_n 0, 1) := by decide +kernel
theorem d33_37 : decode jdk_42_method_66_code 37 = .ok (.getfield 9, 3) := by decide +kernel
theorem d33_40 : decode jdk_42_method_66_code 40 = .ok (.aload_n 2, 1) := by decide +kernel
theorem d33_41 : decode jdk_42_method_66_code 41 = .ok (.getfield 9, 3) := by decide +kernel
theorem d33_44 : decode jdk_42_method_66_code 44 = .ok (.invokestatic 541, 3) := by decide +kernel
theorem pd__28_5bB_5bB_29Z : parseMethodDescriptor "([B[B)Z" = some ⟨[(.array .byte), (.array .byte)], some .boolean⟩ := by decide +kernel
theorem d33_47 : decode jdk_42_method_66_code 47 = .ok (.ifCond .eq 7, 3) := by decide +kernel
theorem d33_50 : decode jdk_42_method_66_code 50 = .ok (.iconst 1, 1) := by decide +kernel
theorem d33_51 : decode jdk_42_method_66_code 51 = .ok (.goto 4, 3) := by decide +kernel
theorem d33_55 : decode jdk_42_method_66_code 55 = .ok (.ireturn, 1) := by decide +kernel
theorem d33_54 : decode jdk_42_method_66_code 54 = .ok (.iconst 0, 1) := by decide +kernel
def Q_rmEqG (Z : State) (s1 : Nat) (s2 : Nat) (ta : Nat) (ka : ClassId) (na : Int32) (va : List Value) (tb : Nat) (kb : ClassId) (nb : Int32) (wb : List Value) (zc : Int32) (h0 : Heap) (n0 : Nat) (v : Option Value) (h : Heap) (L : List Loc) : Prop := ∃ (r1 : Int32), v = some (.int r1) ∧ Fr n0 L ∧ h = h0 ∧ ((r1 = (1 : Int32) ∧ va = wb) ∨ (r1 = (0 : Int32) ∧ ¬ (va = wb)))
set_option maxRecDepth 65536 in
set_option maxHeartbeats 40000000 in
theorem rmEqG (l : Launch) (Z : State) (a0 : Array Value) (hw : ∀ d ∈ tables_1, d.before a0 Z = true) (ws : List Jvm.Cond) (s1 : Nat) (s2 : Nat) (ta : Nat) (ka : ClassId) (na : Int32) (va : List Value) (tb : Nat) (kb : ClassId) (nb : Int32) (wb : List Value) (zc : Int32) (h0 : Heap) (n0 : Nat) (Z0 : n0 ≤ h0.size) (P1 : Exa Z h0 s1 "java/lang/String") (P2 : Fld Z h0 s1 "java/lang/String" "value" "[B" (.ref ta)) (P3 : Fld Z h0 s1 "java/lang/String" "coder" "B" (.int (0 : Int32))) (P4 : Arv Z h0 ta ka .byte na va (.int (0 : Int32))) (P5 : Exa Z h0 s2 "java/lang/String") (P6 : Fld Z h0 s2 "java/lang/String" "value" "[B" (.ref tb)) (P7 : Fld Z h0 s2 "java/lang/String" "coder" "B" (.int (0 : Int32))) (P8 : Arv Z h0 tb kb .byte nb wb (.int (0 : Int32))) (OLD : Old Z n0 h0) (P9 : Sta Z Z.heap "java/lang/String" "COMPACT_STRINGS" "Z" (.int zc)) (hzc : ¬ (zc = (0 : Int32))) (fa : own_fit va na) (fb : own_fit wb nb) (hns : s1 ≠ s2) :
    MetFree l (⟨"java/lang/String", "equals", "(Ljava/lang/Object;)Z"⟩ : MethodName) (head1 (Jvm.Cond.code (⟨"java/lang/String", "equals", "(Ljava/lang/Object;)Z"⟩ : MethodName) jdk_42_method_66_code 3 (some .boolean) :: ws) ({ frames := 1, cells := 0, slots := 0, locals := 14 } : Room)) (fun a U => a = #[(.ref s1), (.ref s2)] ∧ Z.Warmed39 U.vm ∧ U.heap = h0) (fun _ _ _ _ _ => True) (fun _ U o U' => ∃ v L, o = .returned v ∧ Q_rmEqG Z s1 s2 ta ka na va tb kb nb wb zc h0 n0 v U'.heap L ∧ FrameEnd U o U' L ({ frames := 1, cells := 0, slots := 0, locals := 14 } : Room).cells ({ frames := 1, cells := 0, slots := 0, locals := 14 } : Room).slots) := by
  refine MetFree.of_bodySF (plainFor_of_name pn_java_lang_String) hisR ?_
  intro p e s m args below meth c s₁ Bd hml0 hP hK
  obtain ⟨rfl, hZ, hh⟩ := hP
  have hx := Bd.exec
  have hby := Bd.bytes
  have hml : c.maxLocals = 3 := hml0
  have hown : s.vm.findClass "java/lang/String" = some m.cls := findClass_of_methodNamed Bd.named
  have hnm := (name_of_methodNamed Bd.named Bd.method).1
  have X0 : Stand p l e ({ frames := 1, cells := 0, slots := 0, locals := 14 } : Room) s m #[(.ref s1), (.ref s2)] below meth c s₁ [] 0 0 := Stand.of_body Bd
  have e0 : s₁.heap = h0 := by rw [← hh, Bd.state]; rfl
  have N0 := Fr.nil n0
  have pre0 : ∀ t, Steps p.tables e below (s₁.setTop (mkF m 0 #[.val (.ref s1), .val (.ref s2), .unset] [])) t → Steps p.tables e below (s₁.setTop (entryFrame m #[(.ref s1), (.ref s2)] 3)) t := fun t k => castTop (ef_rmEqG m s1 s2) k
  have w_195 := hw _ (List.mem_of_getElem? (i := 195) rfl)
  have w_198 := hw _ (List.mem_of_getElem? (i := 198) rfl)
  have w_199 := hw _ (List.mem_of_getElem? (i := 199) rfl)
  have w_63 := hw _ (List.mem_of_getElem? (i := 63) rfl)
  have w_70 := hw _ (List.mem_of_getElem? (i := 70) rfl)
  have oz := OLD.1
  have lt_s1 : s1 < h0.size := P1.lt
  have lt_s2 : s2 < h0.size := P5.lt
  have lt_ta : ta < h0.size := P4.lt
  have lt_tb : tb < h0.size := P8.lt
  refine own_go (B := s₁.setTop (mkF m 0 #[.val (.ref s1), .val (.ref s2), .unset] [])) pre0 ?_
  show ∃ t o, Steps p.tables e below (s₁.setTop (mkF m 0 #[.val (.ref s1), .val (.ref s2), .unset] [])) t ∧ _
  refine own_go (fun _ => XS.aloadN X0.here hx rfl (hb hby d33_0) rfl rfl) ?_
  refine own_go (fun _ => XS.aloadN X0.here hx rfl (hb hby d33_1) rfl rfl) ?_
  show ∃ t o, Steps p.tables e below (s₁.setTop (mkF m 2 #[.val (.ref s1), .val (.ref s2), .unset] [(.ref s2), (.ref s1)])) t ∧ _
  refine own_go (fun _ => Jvm.RoadKit.acmp (g := (mkF m 2 #[.val (.ref s1), .val (.ref s2), .unset] [(.ref s2), (.ref s1)])) X0 hx rfl rfl rfl (pc0 := 2) (pc' := 7) (same := false) rfl (hb hby d33_2) rfl (decide_eq_false fun q => hns (Value.ref.inj q)) (by decide) (by decide)) ?_
  refine own_go (fun _ => XS.aloadN X0.here hx rfl (hb hby d33_7) rfl rfl) ?_
  obtain ⟨T10, X10, e10, st10⟩ := instY X0 hx hZ hown w_195 e0 (Ins.self P5) (g := (mkF m 8 #[.val (.ref s1), .val (.ref s2), .unset] [(.ref s2)])) rfl rfl (hb hby d33_8)
  refine own_go st10 ?_
  show ∃ t o, Steps p.tables e below (T10.setTop (mkF m 11 #[.val (.ref s1), .val (.ref s2), .unset] [(.int (1 : Int32))])) t ∧ _
  refine own_go (fun _ => XS.ifNo X10.here hx rfl (hb hby d33_11) rfl ((if0 _ _).trans (feq (by decide : ¬ ((1 : Int32) = (0 : Int32)))).1)) ?_
  refine own_go (fun _ => XS.aloadN X10.here hx rfl (hb hby d33_14) rfl rfl) ?_
  obtain ⟨T11, X11, e11, st11⟩ := castY X10 hx hZ hown w_195 e10 (Ins.self P5) (g := (mkF m 15 #[.val (.ref s1), .val (.ref s2), .unset] [(.ref s2)])) rfl rfl (hb hby d33_15)
  refine own_go st11 ?_
  refine own_go (fun _ => XS.astoreN X11.here hx rfl (hb hby d33_18) rfl rfl (l' := #[.val (.ref s1), .val (.ref s2), .val (.ref s2)]) rfl) ?_
  obtain ⟨T12, X12, e12, st12⟩ := getS2 X11 hx hZ hown (host := "") (Or.inl (hw _ (List.mem_of_getElem? (i := 69) rfl))) Via.refl e11 (Sta.ext OLD.2 P9) (g := (mkF m 19 #[.val (.ref s1), .val (.ref s2), .val (.ref s2)] [])) rfl (hb hby d33_19)
  refine own_go st12 ?_
  show ∃ t o, Steps p.tables e below (T12.setTop (mkF m 22 #[.val (.ref s1), .val (.ref s2), .val (.ref s2)] [(.int zc)])) t ∧ _
  refine own_go (fun _ => XS.ifNo X12.here hx rfl (hb hby d33_22) rfl ((if0 _ _).trans (feq hzc).1)) ?_
  refine own_go (fun _ => XS.aloadN X12.here hx rfl (hb hby d33_25) rfl rfl) ?_
  obtain ⟨T13, X13, e13, st13⟩ := getF X12 hx hZ hown (host := "") (Or.inl w_70) Via.refl e12 P3 (g := (mkF m 26 #[.val (.ref s1), .val (.ref s2), .val (.ref s2)] [(.ref s1)])) rfl rfl (hb hby d33_26)
  refine own_go st13 ?_
  refine own_go (fun _ => XS.aloadN X13.here hx rfl (hb hby d33_29) rfl rfl) ?_
  obtain ⟨T14, X14, e14, st14⟩ := getF X13 hx hZ hown (host := "") (Or.inl w_70) Via.refl e13 P7 (g := (mkF m 30 #[.val (.ref s1), .val (.ref s2), .val (.ref s2)] [(.ref s2), (.int (0 : Int32))])) rfl rfl (hb hby d33_30)
  refine own_go st14 ?_
  show ∃ t o, Steps p.tables e below (T14.setTop (mkF m 33 #[.val (.ref s1), .val (.ref s2), .val (.ref s2)] [(.int (0 : Int32)), (.int (0 : Int32))])) t ∧ _
  refine own_go (fun _ => XS.icmpNo X14.here hx rfl (hb hby d33_33) rfl (teq (by decide : (0 : Int32) = (0 : Int32))).2) ?_
  refine own_go (fun _ => XS.aloadN X14.here hx rfl (hb hby d33_36) rfl rfl) ?_
  obtain ⟨T15, X15, e15, st15⟩ := getF X14 hx hZ hown (host := "") (Or.inl w_63) Via.refl e14 P2 (g := (mkF m 37 #[.val (.ref s1), .val (.ref s2), .val (.ref s2)] [(.ref s1)])) rfl rfl (hb hby d33_37)
  refine own_go st15 ?_
  refine own_go (fun _ => XS.aloadN X15.here hx rfl (hb hby d33_40) rfl rfl) ?_
  obtain ⟨T16, X16, e16, st16⟩ := getF X15 hx hZ hown (host := "") (Or.inl w_63) Via.refl e15 P6 (g := (mkF m 41 #[.val (.ref s1), .val (.ref s2), .val (.ref s2)] [(.ref s2), (.ref ta)])) rfl rfl (hb hby d33_41)
  refine own_go st16 ?_
  show ∃ t o, Steps p.tables e below (T16.setTop (mkF m 44 #[.val (.ref s1), .val (.ref s2), .val (.ref s2)] [(.ref tb), (.ref ta)])) t ∧ _
  obtain ⟨_, _, ⟨T17, L17, k17, n17⟩, -, X17, ⟨Lc17, hQ17, l17, y17, z17⟩, st17⟩ := Jvm.LawKit.callS X16 hx (y := (⟨"java/lang/StringLatin1", "equals", "([B[B)Z"⟩ : MethodName)) hown (mvT hZ (hw _ (List.mem_of_getElem? (i := 196) rfl))) (mvT hZ (hw _ (List.mem_of_getElem? (i := 197) rfl))) (mvT hZ w_198) (mvT hZ w_199) (by decide) (backOf (W := 0) (rmLeq l Z a0 hw [] ta ka na va tb kb nb wb h0 n0 Z0 P4 P8 OLD fa fb) hZ w_199 w_198 (by decide) (by decide)) (g := (mkF m 44 #[.val (.ref s1), .val (.ref s2), .val (.ref s2)] [(.ref tb), (.ref ta)])) rfl (by rw [hml]; rfl) (argsL := [(.ref ta), (.ref tb)]) (rest := []) (lenOf pd__28_5bB_5bB_29Z rfl) rfl (by show 2 * 0 + _ ≤ _; exact Nat.le_of_eq rfl) (hb hby d33_44) (fun _ _ => ⟨rfl, e16, (by decide : 0 + 0 ≤ _), (by decide : 0 + 0 ≤ _)⟩)
  dsimp only [Pt.U, Pt.locs, Pt.cells, Pt.slots] at X17 l17 y17 z17 st17 hQ17
  rw [l17, y17, z17] at X17
  obtain ⟨r1_17, rfl, Nq17, e17, H17_0⟩ := hQ17
  have N17 := Fr.app N0 Nq17
  refine own_go st17 ?_
  show ∃ t o, Steps p.tables e below (T17.setTop (mkF m 47 #[.val (.ref s1), .val (.ref s2), .val (.ref s2)] [(.int r1_17)])) t ∧ _
  rcases H17_0 with ⟨hr1, hv1⟩ | ⟨hr1, hv1⟩
  · rw [hr1]
    show ∃ t o, Steps p.tables e below (T17.setTop (mkF m 47 #[.val (.ref s1), .val (.ref s2), .val (.ref s2)] [(.int (1 : Int32))])) t ∧ _
    refine own_go (fun _ => XS.ifNo X17.here hx rfl (hb hby d33_47) rfl ((if0 _ _).trans (feq (by decide : ¬ ((1 : Int32) = (0 : Int32)))).1)) ?_
    refine own_go (fun _ => XS.iconst X17.here hx rfl (hb hby d33_50)) ?_
    refine own_go (fun _ => XS.goto X17.here hx rfl (pc0 := 51) (pc' := 55) rfl (hb hby d33_51) (by decide) (by decide)) ?_
    show ∃ t o, Steps p.tables e below (T17.setTop (mkF m 55 #[.val (.ref s1), .val (.ref s2), .val (.ref s2)] [(.int (1 : Int32))])) t ∧ _
    obtain ⟨fs, hr, hrun, hended, hW, hsame⟩ := X17.leave (v := some (.int (1 : Int32))) (fun h => by rw [Bd.returns] at h; cases h)
    refine ⟨_, _, ?_, hrun, hended, _, _, rfl, ?_, ⟨_, rfl⟩, hW, hsame.mono (by decide) (by decide)⟩
    · exact retN X17 hx (t := .boolean) Bd.returns (by simp) (hb hby d33_55) hr
    · show Q_rmEqG Z _ _ _ _ _ _ _ _ _ _ _ h0 n0 _ T17.heap _
      rw [e17]
      exact ⟨(1 : Int32), rfl, N17, rfl, (Or.inl ⟨rfl, hv1⟩)⟩
  · rw [hr1]
    show ∃ t o, Steps p.tables e below (T17.setTop (mkF m 47 #[.val (.ref s1), .val (.ref s2), .val (.ref s2)] [(.int (0 : Int32))])) t ∧ _
    refine own_go (fun _ => XS.ifYes X17.here hx rfl (pc0 := 47) (pc' := 54) rfl (hb hby d33_47) rfl ((if0 _ _).trans (teq (by decide : (0 : Int32) = (0 : Int32))).1) (by decide) (by decide)) ?_
    refine own_go (fun _ => XS.iconst X17.here hx rfl (hb hby d33_54)) ?_
    show ∃ t o, Steps p.tables e below (T17.setTop (mkF m 55 #[.val (.ref s1), .val (.ref s2), .val (.ref s2)] [(.int (0 : Int32))])) t ∧ _
    obtain ⟨fs, hr, hrun, hended, hW, hsame⟩ := X17.leave (v := some (.int (0 : Int32))) (fun h => by rw [Bd.returns] at h; cases h)
    refine ⟨_, _, ?_, hrun, hended, _, _, rfl, ?_, ⟨_, rfl⟩, hW, hsame.mono (by decide) (by decide)⟩
    · exact retN X17 hx (t := .boolean) Bd.returns (by simp) (hb hby d33_55) hr
    · show Q_rmEqG Z _ _ _ _ _ _ _ _ _ _ _ h0 n0 _ T17.heap _
      rw [e17]
      exact ⟨(0 : Int32), rfl, N17, rfl, (Or.inr ⟨rfl, hv1⟩)⟩
theorem ef_rmQI (m : MethodId) (x0 : Nat) (x1 : Int64) (x2 : Int64) (x3 : Int64) (x4 : Int64) : entryFrame m #[(.ref x0), (.long x1), (.long x2), (.long x3), (.long x4)] 9 = mkF m 0 #[.val (.ref x0), .val (.long x1), .second, .val (.long x2), .second, .val (.long x3), .second, .val (.long x4), .second] [] := by first | (simp [entryFrame, mkF, argsToLocals, Value.category]; done) | rfl
theorem d1_0 : decode prog_5_method_1_code 0 = .ok (.aload_n 0, 1) := by decide +kernel
theorem d1_1 : decode prog_5_method_1_code 1 = .ok (.invokespecial 1, 3) := by decide +kernel
theorem d1_4 : decode prog_5_method_1_code 4 = .ok (.aload_n 0, 1) := by decide +kernel
theorem d1_5 : decode prog_5_method_1_code 5 = .ok (.lload_n 1, 1) := by decide +kernel
theorem d1_6 : decode prog_5_method_1_code 6 = .ok (.putfield 7, 3) := by decide +kernel
theorem d1_9 : decode prog_5_method_1_code 9 = .ok (.aload_n 0, 1) := by decide +kernel
theorem d1_10 : decode prog_5_method_1_code 10 = .ok (.lload_n 3, 1) := by decide +kernel
theorem d1_11 : decode prog_5_method_1_code 11 = .ok (.putfield 13, 3) := by decide +kernel
theorem d1_14 : decode prog_5_method_1_code 14 = .ok (.aload_n 0, 1) := by decide +kernel
theorem d1_15 : decode prog_5_method_1_code 15 = .ok (.lload 5, 2) := by decide +kernel
theorem d1_17 : decode prog_5_method_1_code 17 = .ok (.putfield 16, 3) := by decide +kernel
theorem d1_20 : decode prog_5_method_1_code 20 = .ok (.aload_n 0, 1) := by decide +kernel
theorem d1_21 : decode prog_5_method_1_code 21 = .ok (.lload 7, 2) := by decide +kernel
theorem d1_23 : decode prog_5_method_1_code 23 = .ok (.putfield 19, 3) := by decide +kernel
theorem d1_26 : decode prog_5_method_1_code 26 = .ok (.return_, 1) := by decide +kernel
theorem pn_com_example_libtardy_libtardy_QueueCounts : plainName "com/example/libtardy/libtardy/QueueCounts" = true := by first | (simp [plainName, overriddenIn]; done) | decide +kernel
def Q_rmQI (Z : State) (a1 : Nat) (qw : Int64) (qd : Int64) (qf : Int64) (qx : Int64) (h0 : Heap) (n0 : Nat) (v : Option Value) (h : Heap) (L : List Loc) : Prop := v = none ∧ Fr n0 L ∧ Keep h0 h [a1] ∧ Exa Z h a1 "com/example/libtardy/libtardy/QueueCounts" ∧ Fld Z h a1 "com/example/libtardy/libtardy/QueueCounts" "waiting" "J" (.long qw) ∧ Fld Z h a1 "com/example/libtardy/libtardy/QueueCounts" "due" "J" (.long qd) ∧ Fld Z h a1 "com/example/libtardy/libtardy/QueueCounts" "inFlight" "J" (.long qf) ∧ Fld Z h a1 "com/example/libtardy/libtardy/QueueCounts" "dead" "J" (.long qx)
set_option maxRecDepth 65536 in
set_option maxHeartbeats 40000000 in
theorem rmQI (l : Launch) (Z : State) (a0 : Array Value) (hw : ∀ d ∈ tables_1, d.before a0 Z = true) (ws : List Jvm.Cond) (a1 : Nat) (qw : Int64) (qd : Int64) (qf : Int64) (qx : Int64) (h0 : Heap) (n0 : Nat) (Z0 : n0 ≤ h0.size) (P1 : Exa Z h0 a1 "com/example/libtardy/libtardy/QueueCounts") (P2 : Fld Z h0 a1 "com/example/libtardy/libtardy/QueueCounts" "waiting" "J" (.long (0 : Int64))) (P3 : Fld Z h0 a1 "com/example/libtardy/libtardy/QueueCounts" "due" "J" (.long (0 : Int64))) (P4 : Fld Z h0 a1 "com/example/libtardy/libtardy/QueueCounts" "inFlight" "J" (.long (0 : Int64))) (P5 : Fld Z h0 a1 "com/example/libtardy/libtardy/QueueCounts" "dead" "J" (.long (0 : Int64))) (OLD : Old Z n0 h0) (ga : n0 ≤ a1) :
    MetFree l (⟨"com/example/libtardy/libtardy/QueueCounts", "<init>", "(JJJJ)V"⟩ : MethodName) (head1 (Jvm.Cond.code (⟨"com/example/libtardy/libtardy/QueueCounts", "<init>", "(JJJJ)V"⟩ : MethodName) prog_5_method_1_code 9 none :: ws) ({ frames := 1, cells := 0, slots := 0, locals := 12 } : Room)) (fun a U => a = #[(.ref a1), (.long qw), (.long qd), (.long qf), (.long qx)] ∧ Z.Warmed39 U.vm ∧ U.heap = h0) (fun _ _ _ _ _ => True) (fun _ U o U' => ∃ v L, o = .returned v ∧ Q_rmQI Z a1 qw qd qf qx h0 n0 v U'.heap L ∧ FrameEnd U o U' L ({ frames := 1, cells := 0, slots := 0, locals := 12 } : Room).cells ({ frames := 1, cells := 0, slots := 0, locals := 12 } : Room).slots) := by
  refine MetFree.of_bodySF (plainFor_of_name pn_com_example_libtardy_libtardy_QueueCounts) hisR ?_
  intro p e s m args below meth c s₁ Bd hml0 hP hK
  obtain ⟨rfl, hZ, hh⟩ := hP
  have hx := Bd.exec
  have hby := Bd.bytes
  have hml : c.maxLocals = 9 := hml0
  have hown : s.vm.findClass "com/example/libtardy/libtardy/QueueCounts" = some m.cls := findClass_of_methodNamed Bd.named
  have hnm := (name_of_methodNamed Bd.named Bd.method).1
  have X0 : Stand p l e ({ frames := 1, cells := 0, slots := 0, locals := 12 } : Room) s m #[(.ref a1), (.long qw), (.long qd), (.long qf), (.long qx)] below meth c s₁ [] 0 0 := Stand.of_body Bd
  have e0 : s₁.heap = h0 := by rw [← hh, Bd.state]; rfl
  have N0 := Fr.nil n0
  have pre0 : ∀ t, Steps p.tables e below (s₁.setTop (mkF m 0 #[.val (.ref a1), .val (.long qw), .second, .val (.long qd), .second, .val (.long qf), .second, .val (.long qx), .second] [])) t → Steps p.tables e below (s₁.setTop (entryFrame m #[(.ref a1), (.long qw), (.long qd), (.long qf), (.long qx)] 9)) t := fun t k => castTop (ef_rmQI m a1 qw qd qf qx) k
  have w_1 := hw _ (List.mem_of_getElem? (i := 1) rfl)
  have w_10 := hw _ (List.mem_of_getElem? (i := 10) rfl)
  have w_12 := hw _ (List.mem_of_getElem? (i := 12) rfl)
  have w_14 := hw _ (List.mem_of_getElem? (i := 14) rfl)
  have w_16 := hw _ (List.mem_of_getElem? (i := 16) rfl)
  have oz := OLD.1
  have lt_a1 : a1 < h0.size := P1.lt
  refine own_go (B := s₁.setTop (mkF m 0 #[.val (.ref a1), .val (.long qw), .second, .val (.long qd), .second, .val (.long qf), .second, .val (.long qx), .second] [])) pre0 ?_
  show ∃ t o, Steps p.tables e below (s₁.setTop (mkF m 0 #[.val (.ref a1), .val (.long qw), .second, .val (.long qd), .second, .val (.long qf), .second, .val (.long qx), .second] [])) t ∧ _
  refine own_go (fun _ => XS.aloadN X0.here hx rfl (hb hby d1_0) rfl rfl) ?_
  show ∃ t o, Steps p.tables e below (s₁.setTop (mkF m 1 #[.val (.ref a1), .val (.long qw), .second, .val (.long qd), .second, .val (.long qf), .second, .val (.long qx), .second] [(.ref a1)])) t ∧ _
  obtain ⟨T6, X6, e6, st6⟩ := initO X0 hx hZ hown (hw _ (List.mem_of_getElem? (i := 6) rfl)) (hw _ (List.mem_of_getElem? (i := 7) rfl)) (hw _ (List.mem_of_getElem? (i := 8) rfl)) e0 (g := (mkF m 1 #[.val (.ref a1), .val (.long qw), .second, .val (.long qd), .second, .val (.long qf), .second, .val (.long qx), .second] [(.ref a1)])) rfl (by rw [hml]; rfl) rfl (hb hby d1_1) (by decide) (W := 0) (by show 2 * 0 + _ ≤ _; exact Nat.le_of_eq rfl) (by decide)
  refine own_go st6 ?_
  refine own_go (fun _ => XS.aloadN X6.here hx rfl (hb hby d1_4) rfl rfl) ?_
  refine own_go (fun _ => XS.lloadN X6.here hx rfl (hb hby d1_5) rfl) ?_
  obtain ⟨T7, h7, X7, e7, W7, st7⟩ := putF X6 hx hZ hown (host := "") (Or.inl (hw _ (List.mem_of_getElem? (i := 9) rfl))) Via.refl e6 P2 P1 (Or.inr ⟨w_10, rfl, hnm⟩) w_1 (ty := .long) (by decide) rfl rfl (g := (mkF m 6 #[.val (.ref a1), .val (.long qw), .second, .val (.long qd), .second, .val (.long qf), .second, .val (.long qx), .second] [(.long qw), (.ref a1)])) rfl rfl (hb hby d1_6)
  refine own_go st7 ?_
  have le_7 : h0.size ≤ h7.size := Nat.le_of_eq W7.size.symm
  have K7 : Keep h0 h7 [a1] := Keep.wr (Keep.refl h0 [a1]) W7 (Or.inl (List.mem_of_getElem? (i := 0) rfl))
  have N7 := Fr.snoc X7 N0 ga
  have Fw7 := Fld.same W7 P2
  refine own_go (fun _ => XS.aloadN X7.here hx rfl (hb hby d1_9) rfl rfl) ?_
  refine own_go (fun _ => XS.lloadN X7.here hx rfl (hb hby d1_10) rfl) ?_
  have F8 := (Exa.wr W7 P1)
  have F9 := (Fld.other W7 P3 (Or.inr (slot_ne (a0 := a0) (Or.inr w_12) (Or.inr w_10) (by decide) (t := .long) (t' := .long) (by decide) (by decide))))
  obtain ⟨T10, h10, X10, e10, W10, st10⟩ := putF X7 hx hZ hown (host := "") (Or.inl (hw _ (List.mem_of_getElem? (i := 11) rfl))) Via.refl e7 F9 F8 (Or.inr ⟨w_12, rfl, hnm⟩) w_1 (ty := .long) (by decide) rfl rfl (g := (mkF m 11 #[.val (.ref a1), .val (.long qw), .second, .val (.long qd), .second, .val (.long qf), .second, .val (.long qx), .second] [(.long qd), (.ref a1)])) rfl rfl (hb hby d1_11)
  refine own_go st10 ?_
  have le_10 : h7.size ≤ h10.size := Nat.le_of_eq W10.size.symm
  have K10 : Keep h0 h10 [a1] := Keep.wr K7 W10 (Or.inl (List.mem_of_getElem? (i := 0) rfl))
  have N10 := Fr.snoc X10 N7 ga
  have Fw10 := Fld.same W10 F9
  refine own_go (fun _ => XS.aloadN X10.here hx rfl (hb hby d1_14) rfl rfl) ?_
  refine own_go (fun _ => XS.lload X10.here hx rfl (hb hby d1_15) rfl) ?_
  have F11 := (Exa.wr W10 F8)
  have F12 := (Fld.other W10 (Fld.other W7 P4 (Or.inr (slot_ne (a0 := a0) (Or.inr w_14) (Or.inr w_10) (by decide) (t := .long) (t' := .long) (by decide) (by decide)))) (Or.inr (slot_ne (a0 := a0) (Or.inr w_14) (Or.inr w_12) (by decide) (t := .long) (t' := .long) (by decide) (by decide))))
  obtain ⟨T13, h13, X13, e13, W13, st13⟩ := putF X10 hx hZ hown (host := "") (Or.inl (hw _ (List.mem_of_getElem? (i := 13) rfl))) Via.refl e10 F12 F11 (Or.inr ⟨w_14, rfl, hnm⟩) w_1 (ty := .long) (by decide) rfl rfl (g := (mkF m 17 #[.val (.ref a1), .val (.long qw), .second, .val (.long qd), .second, .val (.long qf), .second, .val (.long qx), .second] [(.long qf), (.ref a1)])) rfl rfl (hb hby d1_17)
  refine own_go st13 ?_
  have le_13 : h10.size ≤ h13.size := Nat.le_of_eq W13.size.symm
  have K13 : Keep h0 h13 [a1] := Keep.wr K10 W13 (Or.inl (List.mem_of_getElem? (i := 0) rfl))
  have N13 := Fr.snoc X13 N10 ga
  have Fw13 := Fld.same W13 F12
  show ∃ t o, Steps p.tables e below (T13.setTop (mkF m 20 #[.val (.ref a1), .val (.long qw), .second, .val (.long qd), .second, .val (.long qf), .second, .val (.long qx), .second] [])) t ∧ _
  refine own_go (fun _ => XS.aloadN X13.here hx rfl (hb hby d1_20) rfl rfl) ?_
  refine own_go (fun _ => XS.lload X13.here hx rfl (hb hby d1_21) rfl) ?_
  have F14 := (Exa.wr W13 F11)
  have F15 := (Fld.other W13 (Fld.other W10 (Fld.other W7 P5 (Or.inr (slot_ne (a0 := a0) (Or.inr w_16) (Or.inr w_10) (by decide) (t := .long) (t' := .long) (by decide) (by decide)))) (Or.inr (slot_ne (a0 := a0) (Or.inr w_16) (Or.inr w_12) (by decide) (t := .long) (t' := .long) (by decide) (by decide)))) (Or.inr (slot_ne (a0 := a0) (Or.inr w_16) (Or.inr w_14) (by decide) (t := .long) (t' := .long) (by decide) (by decide))))
  obtain ⟨T16, h16, X16, e16, W16, st16⟩ := putF X13 hx hZ hown (host := "") (Or.inl (hw _ (List.mem_of_getElem? (i := 15) rfl))) Via.refl e13 F15 F14 (Or.inr ⟨w_16, rfl, hnm⟩) w_1 (ty := .long) (by decide) rfl rfl (g := (mkF m 23 #[.val (.ref a1), .val (.long qw), .second, .val (.long qd), .second, .val (.long qf), .second, .val (.long qx), .second] [(.long qx), (.ref a1)])) rfl rfl (hb hby d1_23)
  refine own_go st16 ?_
  have le_16 : h13.size ≤ h16.size := Nat.le_of_eq W16.size.symm
  have K16 : Keep h0 h16 [a1] := Keep.wr K13 W16 (Or.inl (List.mem_of_getElem? (i := 0) rfl))
  have N16 := Fr.snoc X16 N13 ga
  have Fw16 := Fld.same W16 F15
  show ∃ t o, Steps p.tables e below (T16.setTop (mkF m 26 #[.val (.ref a1), .val (.long qw), .second, .val (.long qd), .second, .val (.long qf), .second, .val (.long qx), .second] [])) t ∧ _
  have F17 := (Exa.wr W16 F14)
  have F18 := (Fld.other W16 (Fld.other W13 (Fld.other W10 Fw7 (Or.inr (slot_ne (a0 := a0) (Or.inr w_10) (Or.inr w_12) (by decide) (t := .long) (t' := .long) (by decide) (by decide)))) (Or.inr (slot_ne (a0 := a0) (Or.inr w_10) (Or.inr w_14) (by decide) (t := .long) (t' := .long) (by decide) (by decide)))) (Or.inr (slot_ne (a0 := a0) (Or.inr w_10) (Or.inr w_16) (by decide) (t := .long) (t' := .long) (by decide) (by decide))))
  have F19 := (Fld.other W16 (Fld.other W13 Fw10 (Or.inr (slot_ne (a0 := a0) (Or.inr w_12) (Or.inr w_14) (by decide) (t := .long) (t' := .long) (by decide) (by decide)))) (Or.inr (slot_ne (a0 := a0) (Or.inr w_12) (Or.inr w_16) (by decide) (t := .long) (t' := .long) (by decide) (by decide))))
  have F20 := (Fld.other W16 Fw13 (Or.inr (slot_ne (a0 := a0) (Or.inr w_14) (Or.inr w_16) (by decide) (t := .long) (t' := .long) (by decide) (by decide))))
  obtain ⟨fs, hr, hrun, hended, hW, hsame⟩ := X16.leave (v := none) (fun _ => rfl)
  refine ⟨_, _, ?_, hrun, hended, _, _, rfl, ?_, ⟨_, rfl⟩, hW, hsame.mono (by decide) (by decide)⟩
  · exact X16.returnOut hx Bd.returns (hb hby d1_26) hr
  · show Q_rmQI Z _ _ _ _ _ h0 n0 _ T16.heap _
    rw [e16]
    exact ⟨rfl, N16, K16, F17, F18, F19, F20, Fw16⟩
theorem ef_rmQTs (m : MethodId) (x0 : Nat) : entryFrame m #[(.ref x0)] 1 = mkF m 0 #[.val (.ref x0)] [] := by first | (simp [entryFrame, mkF, argsToLocals, Value.category]; done) | rfl
theorem d3_0 : decode prog_5_method_8_code 0 = .ok (.new 34, 3) := by decide +kernel
theorem d3_3 : decode prog_5_method_8_code 3 = .ok (.dup, 1) := by decide +kernel
theorem d3_4 : decode prog_5_method_8_code 4 = .ok (.invokespecial 36, 3) := by decide +kernel
theorem pd__28_29V : parseMethodDescriptor "()V" = some ⟨[], none⟩ := by decide +kernel
theorem d3_7 : decode prog_5_method_8_code 7 = .ok (.ldc 37, 2) := by decide +kernel
theorem own_ct_51_75_65_75_65_43_6f_75_6e_74_73_5b_77_61_69_74_69_6e_67_3d : (∀ c ∈ "QueueCounts[waiting=".toList, c.toNat < 256) ∧ "QueueCounts[waiting=".toList.map (fun c => Value.int (Jvm.Lit.byteI c.toNat.toUInt16)) = [(.int (81 : Int32)), (.int (117 : Int32)), (.int (101 : Int32)), (.int (117 : Int32)), (.int (101 : Int32)), (.int (67 : Int32)), (.int (111 : Int32)), (.int (117 : Int32)), (.int (110 : Int32)), (.int (116 : Int32)), (.int (115 : Int32)), (.int (91 : Int32)), (.int (119 : Int32)), (.int (97 : Int32)), (.int (105 : Int32)), (.int (116 : Int32)), (.int (105 : Int32)), (.int (110 : Int32)), (.int (103 : Int32)), (.int (61 : Int32))] := ⟨by decide, by first | rfl | decide | (simp; decide)⟩
theorem d3_9 : decode prog_5_method_8_code 9 = .ok (.invokevirtual 39, 3) := by decide +kernel
theorem pd_h63c63b4d : parseMethodDescriptor "(Ljava/lang/String;)Ljava/lang/StringBuilder;" = some ⟨[(.object "java/lang/String")], some (.object "java/lang/StringBuilder")⟩ := by decide +kernel
theorem d3_12 : decode prog_5_method_8_code 12 = .ok (.aload_n 0, 1) := by decide +kernel
theorem d3_13 : decode prog_5_method_8_code 13 = .ok (.getfield 7, 3) := by decide +kernel
theorem d3_16 : decode prog_5_method_8_code 16 = .ok (.invokevirtual 43, 3) := by decide +kernel
theorem pd__28J_29Ljava_2flang_2fStringBuilder_3b : parseMethodDescriptor "(J)Ljava/lang/StringBuilder;" = some ⟨[.long], some (.object "java/lang/StringBuilder")⟩ := by decide +kernel
theorem d3_19 : decode prog_5_method_8_code 19 = .ok (.ldc 46, 2) := by decide +kernel
theorem own_ct_2c_20_64_75_65_3d : (∀ c ∈ ", due=".toList, c.toNat < 256) ∧ ", due=".toList.map (fun c => Value.int (Jvm.Lit.byteI c.toNat.toUInt16)) = [(.int (44 : Int32)), (.int (32 : Int32)), (.int (100 : Int32)), (.int (117 : Int32)), (.int (101 : Int32)), (.int (61 : Int32))] := ⟨by decide, by first | rfl | decide | (simp; decide)⟩
theorem d3_21 : decode prog_5_method_8_code 21 = .ok (.invokevirtual 39, 3) := by decide +kernel
theorem d3_24 : decode prog_5_method_8_code 24 = .ok (.aload_n 0, 1) := by decide +kernel
theorem d3_25 : decode prog_5_method_8_code 25 = .ok (.getfield 13, 3) := by decide +kernel
theorem d3_28 : decode prog_5_method_8_code 28 = .ok (.invokevirtual 43, 3) := by decide +kernel
theorem d3_31 : decode prog_5_method_8_code 31 = .ok (.ldc 48, 2) := by decide +kernel
theorem own_ct_2c_20_69_6e_46_6c_69_67_68_74_3d : (∀ c ∈ ", inFlight=".toList, c.toNat < 256) ∧ ", inFlight=".toList.map (fun c => Value.int (Jvm.Lit.byteI c.toNat.toUInt16)) = [(.int (44 : Int32)), (.int (32 : Int32)), (.int (105 : Int32)), (.int (110 : Int32)), (.int (70 : Int32)), (.int (108 : Int32)), (.int (105 : Int32)), (.int (103 : Int32)), (.int (104 : Int32)), (.int (116 : Int32)), (.int (61 : Int32))] := ⟨by decide, by first | rfl | decide | (simp; decide)⟩
theorem d3_33 : decode prog_5_method_8_code 33 = .ok (.invokevirtual 39, 3) := by decide +kernel
theorem d3_36 : decode prog_5_method_8_code 36 = .ok (.aload_n 0, 1) := by decide +kernel
theorem d3_37 : decode prog_5_method_8_code 37 = .ok (.getfield 16, 3) := by decide +kernel
theorem d3_40 : decode prog_5_method_8_code 40 = .ok (.invokevirtual 43, 3) := by decide +kernel
theorem d3_43 : decode prog_5_method_8_code 43 = .ok (.ldc 50, 2) := by decide +kernel
theorem own_ct_2c_20_64_65_61_64_3d : (∀ c ∈ ", dead=".toList, c.toNat < 256) ∧ ", dead=".toList.map (fun c => Value.int (Jvm.Lit.byteI c.toNat.toUInt16)) = [(.int (44 : Int32)), (.int (32 : Int32)), (.int (100 : Int32)), (.int (101 : Int32)), (.int (97 : Int32)), (.int (100 : Int32)), (.int (61 : Int32))] := ⟨by decide, by first | rfl | decide | (simp; decide)⟩
theorem d3_45 : decode prog_5_method_8_code 45 = .ok (.invokevirtual 39, 3) := by decide +kernel
theorem d3_48 : decode prog_5_method_8_code 48 = .ok (.aload_n 0, 1) := by decide +kernel
theorem d3_49 : decode prog_5_method_8_code 49 = .ok (.getfield 19, 3) := by decide +kernel
theorem d3_52 : decode prog_5_method_8_code 52 = .ok (.invokevirtual 43, 3) := by decide +kernel
theorem d3_55 : decode prog_5_method_8_code 55 = .ok (.ldc 52, 2) := by decide +kernel
theorem own_ct_5d : (∀ c ∈ "]".toList, c.toNat < 256) ∧ "]".toList.map (fun c => Value.int (Jvm.Lit.byteI c.toNat.toUInt16)) = [(.int (93 : Int32))] := ⟨by decide, by first | rfl | decide | (simp; decide)⟩
theorem d3_57 : decode prog_5_method_8_code 57 = .ok (.invokevirtual 39, 3) := by decide +kernel
theorem d3_60 : decode prog_5_method_8_code 60 = .ok (.invokevirtual 54, 3) := by decide +kernel
theorem pd__28_29Ljava_2flang_2fString_3b : parseMethodDescriptor "()Ljava/lang/String;" = some ⟨[], some (.object "java/lang/String")⟩ := by decide +kernel
theorem d3_63 : decode prog_5_method_8_code 63 = .ok (.areturn, 1) := by decide +kernel
def Q_rmQTs (Z : State) (a1 : Nat) (qw : Int64) (qd : Int64) (qf : Int64) (qx : Int64) (zc : Int32) (gd : Nat) (ge : Nat) (kd : ClassId) (ke : ClassId) (h0 : Heap) (n0 : Nat) (v : Option Value) (h : Heap) (L : List Loc) : Prop := ∃ (b : Nat), ∃ (tb : Nat), ∃ (kb : ClassId), ∃ (nn : Int32), v = some (.ref b) ∧ Fr n0 L ∧ Keep h0 h [] ∧ Exa Z h b "java/lang/String" ∧ Fld Z h b "java/lang/String" "value" "[B" (.ref tb) ∧ Fld Z h b "java/lang/String" "coder" "B" (.int (0 : Int32)) ∧ Arv Z h tb kb .byte nn (own_qc qw qd qf qx) (.int (0 : Int32)) ∧ (own_fit (own_qc qw qd qf qx) nn) ∧ (h0.size ≤ b) ∧ (h0.size ≤ tb)
set_option maxRecDepth 65536 in
set_option maxHeartbeats 40000000 in
theorem rmQTs (l : Launch) (Z : State) (a0 : Array Value) (hw : ∀ d ∈ tables_1, d.before a0 Z = true) (ws : List Jvm.Cond) (a1 : Nat) (qw : Int64) (qd : Int64) (qf : Int64) (qx : Int64) (zc : Int32) (gd : Nat) (ge : Nat) (kd : ClassId) (ke : ClassId) (h0 : Heap) (n0 : Nat) (Z0 : n0 ≤ h0.size) (P1 : Exa Z h0 a1 "com/example/libtardy/libtardy/QueueCounts") (P2 : Fld Z h0 a1 "com/example/libtardy/libtardy/QueueCounts" "waiting" "J" (.long qw)) (P3 : Fld Z h0 a1 "com/example/libtardy/libtardy/QueueCounts" "due" "J" (.long qd)) (P4 : Fld Z h0 a1 "com/example/libtardy/libtardy/QueueCounts" "inFlight" "J" (.long qf)) (P5 : Fld Z h0 a1 "com/example/libtardy/libtardy/QueueCounts" "dead" "J" (.long qx)) (OLD : Old Z n0 h0) (P6 : Sta Z Z.heap "java/lang/String" "COMPACT_STRINGS" "Z" (.int zc)) (P7 : Sta Z Z.heap "java/lang/Integer" "DigitOnes" "[B" (.ref gd)) (P8 : Sta Z Z.heap "java/lang/Integer" "DigitTens" "[B" (.ref ge)) (P9 : Arv Z Z.heap gd kd .byte (100 : Int32) own_ones (.int (0 : Int32))) (P10 : Arv Z Z.heap ge ke .byte (100 : Int32) own_tens (.int (0 : Int32))) (hzc : ¬ (zc = (0 : Int32))) (hEL : EW Z a0 own_EL) :
    MetFree l (⟨"com/example/libtardy/libtardy/QueueCounts", "toString", "()Ljava/lang/String;"⟩ : MethodName) (head1 (Jvm.Cond.code (⟨"com/example/libtardy/libtardy/QueueCounts", "toString", "()Ljava/lang/String;"⟩ : MethodName) prog_5_method_8_code 1 (some (.object "java/lang/String")) :: ws) ({ frames := 6, cells := 22, slots := 1502, locals := 92 } : Room)) (fun a U => a = #[(.ref a1)] ∧ Z.Warmed39 U.vm ∧ U.heap = h0 ∧ CHv Z own_EL U.vm h0) (fun _ _ _ _ _ => True) (fun _ U o U' => ∃ v L, o = .returned v ∧ Q_rmQTs Z a1 qw qd qf qx zc gd ge kd ke h0 n0 v U'.heap L ∧ CHr Z own_EL U.vm U.heap U'.vm U'.heap ∧ ReturnedEndW U o U' L ({ frames := 6, cells := 22, slots := 1502, locals := 92 } : Room).cells ({ frames := 6, cells := 22, slots := 1502, locals := 92 } : Room).slots) := by
  refine MetFree.of_bodySF (plainFor_of_name pn_com_example_libtardy_libtardy_QueueCounts) hisR ?_
  intro p e s m args below meth c s₁ Bd hml0 hP hK
  obtain ⟨rfl, hZ, hh, hCH⟩ := hP
  have hx := Bd.exec
  have hby := Bd.bytes
  have hml : c.maxLocals = 1 := hml0
  have hown : s.vm.findClass "com/example/libtardy/libtardy/QueueCounts" = some m.cls := findClass_of_methodNamed Bd.named
  have hnm := (name_of_methodNamed Bd.named Bd.method).1
  have X0 : Stand p l e ({ frames := 6, cells := 22, slots := 1502, locals := 92 } : Room) (s.setVm s.vm) m #[(.ref a1)] below meth c s₁ [] 0 0 := Stand.of_body Bd
  have e0 : s₁.heap = h0 := by rw [← hh, Bd.state]; rfl
  have N0 := Fr.nil n0
  have pre0 : ∀ t, Steps p.tables e below (s₁.setTop (mkF m 0 #[.val (.ref a1)] [])) t → Steps p.tables e below (s₁.setTop (entryFrame m #[(.ref a1)] 1)) t := fun t k => castTop (ef_rmQTs m a1) k
  have hZ : Z.Warmed39 (s.setVm s.vm).vm := hZ
  have hown : (s.setVm s.vm).vm.findClass "com/example/libtardy/libtardy/QueueCounts" = some m.cls := hown
  have hS : s.Since s.vm 0 := (State.WarmedH.refl s).since 0
  have CH0 : CHr Z own_EL s.vm h0 s.vm h0 := CHr.refl hCH
  have wS : ∀ a ∈ Bundle.stringAtoms, a.before a0 Z = true := fun d hd => hw d ((by decide +kernel : ∀ d ∈ Bundle.stringAtoms, d ∈ tables_1) d hd)
  have w_121 := hw _ (List.mem_of_getElem? (i := 121) rfl)
  have w_122 := hw _ (List.mem_of_getElem? (i := 122) rfl)
  have w_123 := hw _ (List.mem_of_getElem? (i := 123) rfl)
  have w_124 := hw _ (List.mem_of_getElem? (i := 124) rfl)
  have w_125 := hw _ (List.mem_of_getElem? (i := 125) rfl)
  have w_152 := hw _ (List.mem_of_getElem? (i := 152) rfl)
  have w_153 := hw _ (List.mem_of_getElem? (i := 153) rfl)
  have w_154 := hw _ (List.mem_of_getElem? (i := 154) rfl)
  have w_155 := hw _ (List.mem_of_getElem? (i := 155) rfl)
  have w_156 := hw _ (List.mem_of_getElem? (i := 156) rfl)
  have w_157 := hw _ (List.mem_of_getElem? (i := 157) rfl)
  have w_24 := hw _ (List.mem_of_getElem? (i := 24) rfl)
  have w_27 := hw _ (List.mem_of_getElem? (i := 27) rfl)
  have w_48 := hw _ (List.mem_of_getElem? (i := 48) rfl)
  have w_49 := hw _ (List.mem_of_getElem? (i := 49) rfl)
  have w_50 := hw _ (List.mem_of_getElem? (i := 50) rfl)
  have w_51 := hw _ (List.mem_of_getElem? (i := 51) rfl)
  have w_52 := hw _ (List.mem_of_getElem? (i := 52) rfl)
  have oz := OLD.1
  have lt_gd : gd < Z.heap.size := P9.lt
  have lt_ge : ge < Z.heap.size := P10.lt
  have lt_a1 : a1 < h0.size := P1.lt
  refine own_go (B := s₁.setTop (mkF m 0 #[.val (.ref a1)] [])) pre0 ?_
  show ∃ t o, Steps p.tables e below (s₁.setTop (mkF m 0 #[.val (.ref a1)] [])) t ∧ _
  obtain ⟨T11, h11, X11, e11, E11, A11, D11, -, st11⟩ := newO X0 hx hZ hown (hw _ (List.mem_of_getElem? (i := 22) rfl)) (hw _ (List.mem_of_getElem? (i := 23) rfl)) w_24 e0 (g := (mkF m 0 #[.val (.ref a1)] [])) rfl (hb hby d3_0) (by decide) (by decide)
  obtain ⟨b11, g11⟩ : ∃ z, z = h0.size := ⟨_, rfl⟩
  rw [← g11] at A11 D11 st11
  refine own_go st11 ?_
  have le_11 : h0.size ≤ h11.size := E11.1
  have lt_b11 : b11 < h11.size := A11.lt
  have F_value_b11 : Fld Z h11 b11 "java/lang/AbstractStringBuilder" "value" "[B" .null := D11 (Or.inl (hw _ (List.mem_of_getElem? (i := 39) rfl))) (ty := (.array .byte)) (by decide)
  have F_coder_b11 : Fld Z h11 b11 "java/lang/AbstractStringBuilder" "coder" "B" (.int (0 : Int32)) := D11 (Or.inl (hw _ (List.mem_of_getElem? (i := 41) rfl))) (ty := .byte) (by decide)
  have F_count_b11 : Fld Z h11 b11 "java/lang/AbstractStringBuilder" "count" "I" (.int (0 : Int32)) := D11 (Or.inl (hw _ (List.mem_of_getElem? (i := 72) rfl))) (ty := .int) (by decide)
  have K11 : Keep h0 h11 [] := Keep.ext (Keep.refl h0 []) E11
  have CH12 := CHr.trans CH0 (CHr.ext E11 CH0.1)
  refine own_go (fun _ => XS.dup X11.here hx rfl (hb hby d3_3) rfl rfl) ?_
  have sf13 := Safe.exa (EL := own_EL) hZ.alike A11 (by decide) (by decide)
  show ∃ t o, Steps p.tables e below (T11.setTop (mkF m 4 #[.val (.ref a1)] [(.ref b11), (.ref b11)])) t ∧ _
  have F14 := (OLD.ext E11)
  have ge15 : n0 ≤ b11 := by omega
  have zl16 : n0 ≤ h11.size := by omega
  have sf17 := Safe.exa (EL := own_EL) hZ.alike A11 (by decide) (by decide)
  obtain ⟨_, _, ⟨T18, L18, k18, n18⟩, -, X18, ⟨Lc18, hQ18, l18, y18, z18⟩, st18⟩ := X11.specialBack hx (y := (⟨"java/lang/StringBuilder", "<init>", "()V"⟩ : MethodName)) rfl hown (mvT hZ (hw _ (List.mem_of_getElem? (i := 25) rfl))) (mvT hZ (hw _ (List.mem_of_getElem? (i := 26) rfl))) (mvT hZ w_27) (by decide) (backOf (W := 1) (rmSBI l Z a0 hw [] b11 zc h11 n0 zl16 A11 F_value_b11 F_coder_b11 F_count_b11 F14 P6 hzc ge15) hZ w_27 w_24 (by decide) (by decide)) (g := (mkF m 4 #[.val (.ref a1)] [(.ref b11), (.ref b11)])) rfl (by rw [hml]; rfl) (Steps.refl _) (a := b11) (argsL := []) (rest := [(.ref b11)]) (lenOf pd__28_29V rfl) rfl (by show 2 * 0 + _ ≤ _; exact Nat.le_of_eq rfl) (hb hby d3_4) (fun _ _ => ⟨rfl, e11, (by decide : 1 + 1 ≤ _), (by decide : 4 + 16 ≤ _)⟩)
  dsimp only [Pt.U, Pt.locs, Pt.cells, Pt.slots] at X18 l18 y18 z18 st18 hQ18
  rw [l18, y18, z18] at X18
  obtain ⟨vb_18, kv_18, rfl, Nq18, Kp18, G18_0, G18_1, G18_2, G18_3, G18_4, G18_5, H18_0⟩ := hQ18
  have N18 := Fr.app N0 Nq18
  refine own_goT st18 ?_
  have le_18 : h11.size ≤ T18.heap.size := Kp18.1
  have sz19 : h0.size ≤ b11 := by omega
  have K18 : Keep h0 T18.heap [] := Keep.trans K11 Kp18 (allS (Or.inr sz19) all0)
  have CH20 := CHr.trans CH12 (CHr.keep Kp18 (allS sf17 all0) CH12.1)
  have lt_vb_18 : vb_18 < T18.heap.size := (G18_4).lt
  have Sfv := Safe.keep Kp18 (allS sf13 all0) CH12.1 (Safe.new (show h11.size ≤ (vb_18 : Nat) by omega))
  have Sfb := Safe.keep Kp18 (allS sf13 all0) CH12.1 sf13
  have fA : own_fit [] (0 : Int32) := rfl
  have cA : own_cap [] (16 : Int32) := ⟨by decide, by decide, by decide⟩
  have dl_qw := own_dec_le qw
  have dl_qd := own_dec_le qd
  have dl_qf := own_dec_le qf
  have dl_qx := own_dec_le qx
  obtain ⟨a21, T21, h21, kS21, b21, kb21, X21, e21, E21, hS, hk21, hZ, hown, A21, Fc21, Fv21, Av21, lta21, ltb21, cr21, -, hne21, st21⟩ := ldcCH X18 hx hZ hown (hw _ (List.mem_of_getElem? (i := 42) rfl)) wS rfl hS (Nat.zero_le _) hEL own_mem37 CH20.1 (vs := [(.int (81 : Int32)), (.int (117 : Int32)), (.int (101 : Int32)), (.int (117 : Int32)), (.int (101 : Int32)), (.int (67 : Int32)), (.int (111 : Int32)), (.int (117 : Int32)), (.int (110 : Int32)), (.int (116 : Int32)), (.int (115 : Int32)), (.int (91 : Int32)), (.int (119 : Int32)), (.int (97 : Int32)), (.int (105 : Int32)), (.int (116 : Int32)), (.int (105 : Int32)), (.int (110 : Int32)), (.int (103 : Int32)), (.int (61 : Int32))]) (z := 20) own_ct_51_75_65_75_65_43_6f_75_6e_74_73_5b_77_61_69_74_69_6e_67_3d (by decide) rfl (g := (mkF m 7 #[.val (.ref a1)] [(.ref b11)])) rfl (hb hby d3_7) (n := 80) (by decide) (by decide) (by decide) (by decide)
  refine own_go st21 ?_
  have K21 : Keep h0 h21 [] := Keep.ext K18 E21
  have le_21 : T18.heap.size ≤ h21.size := E21.1
  have Sf22 := CHr.safe cr21 (show (vb_18 : Nat) < T18.heap.size by omega) Sfv
  have Sf23 := CHr.safe cr21 (show (b11 : Nat) < T18.heap.size by omega) Sfb
  have CH24 := CHr.trans CH20 cr21
  have lt_a21 := own_ltn lta21
  have lt_b21 := own_ltn ltb21
  have Pc1 : Arv Z h21 b21 kb21 .byte (20 : Int32) own_p1 (.int (0 : Int32)) := Av21
  have fK1 : own_fit own_p1 (20 : Int32) := rfl
  show ∃ t o, Steps p.tables e below (T21.setTop (mkF m 9 #[.val (.ref a1)] [(.ref a21), (.ref b11)])) t ∧ _
  have F25 := (Exa.ext E21 G18_0)
  have F26 := (Fld.ext E21 G18_1)
  have F27 := (Fld.ext E21 G18_2)
  have F28 := (Fld.ext E21 G18_3)
  have F29 := (Exa.ext E21 G18_4)
  have F30 := (G18_5.ext E21)
  have F31 := ((Old.keep F14 Kp18 (allS ge15 all0)).ext E21)
  have ge32 : n0 ≤ vb_18 := by omega
  have ne33 : b11 ≠ vb_18 := own_ne (by omega)
  have zl34 : n0 ≤ h21.size := by omega
  obtain ⟨cq35, kq35, q35a, q35b, q35c⟩ := isOf hZ e21 F25
  obtain ⟨_, _, ⟨T35, L35, k35, n35⟩, -, X35, ⟨Lc35, hQ35, l35, y35, z35⟩, st35⟩ := X21.virtualBack hx (y := (⟨"java/lang/StringBuilder", "append", "(Ljava/lang/String;)Ljava/lang/StringBuilder;"⟩ : MethodName)) (z := (⟨"java/lang/StringBuilder", "append", "(Ljava/lang/String;)Ljava/lang/StringBuilder;"⟩ : MethodName)) hown (mvT hZ w_48) (mvT hZ w_49) (notFace_of_selects (args := #[]) (mvT hZ w_51)) (mvT hZ w_51) (mvT hZ w_50) (by decide) (backOf (W := 0) (rmSBa l Z a0 hw [] a21 b21 kb21 (20 : Int32) own_p1 b11 vb_18 kv_18 (16 : Int32) ([]) (0 : Int32) zc h21 n0 zl34 A21 Fv21 Fc21 Pc1 F25 F26 F27 F28 F29 F30 F31 P6 hzc (fK1 : own_fit own_p1 (20 : Int32)) (fA : own_fit [] (0 : Int32)) (by simp only [List.length_append, List.length_nil, own_pl1, own_pl2, own_pl3, own_pl4, own_pl5]; omega) (by have q := cA; unfold own_cap at q; simp only [List.length_append, List.length_nil, own_pl1, own_pl2, own_pl3, own_pl4, own_pl5] at q ⊢; omega) (cA : own_cap [] (16 : Int32)) ge15 ge32 ne33 (Ne.symm (hne21 _ Sf23).1) (Ne.symm (hne21 _ Sf23).2)) hZ w_52 w_24 (by decide) (by decide)) q35a q35c (g := (mkF m 9 #[.val (.ref a1)] [(.ref a21), (.ref b11)])) rfl (by rw [hml]; rfl) (Steps.refl _) (argsL := [(.ref a21)]) (rest := []) (lenOf pd_h63c63b4d rfl) rfl (by show 2 * 0 + _ ≤ _; exact Nat.le_of_eq rfl) (hb hby d3_9) (fun _ _ => ⟨rfl, e21, (by decide : 4 + 1 ≤ _), (by decide : 104 + 142 ≤ _)⟩)
  dsimp only [Pt.U, Pt.locs, Pt.cells, Pt.slots] at X35 l35 y35 z35 st35 hQ35
  rw [l35, y35, z35] at X35
  obtain ⟨vb2_35, kv2_35, cp2_35, rfl, Nq35, Kp35, G35_0, G35_1, G35_2, G35_3, G35_4, G35_5, H35_0, H35_1, H35_2, H35_3⟩ := hQ35
  have N35 := Fr.app N18 Nq35
  refine own_goT st35 ?_
  have le_35 : h21.size ≤ T35.heap.size := Kp35.1
  have sz36 : h0.size ≤ vb_18 := by omega
  have K35 : Keep h0 T35.heap [] := Keep.trans K21 Kp35 (allS (Or.inr sz19) (allS (Or.inr sz36) all0))
  have Sf37 := Safe.keep Kp35 (allS Sf23 (allS Sf22 all0)) CH24.1 Sf22
  have Sf38 := Safe.keep Kp35 (allS Sf23 (allS Sf22 all0)) CH24.1 Sf23
  have CH39 := CHr.trans CH24 (CHr.keep Kp35 (allS Sf23 (allS Sf22 all0)) CH24.1)
  have lt_vb2_35 : vb2_35 < T35.heap.size := (G35_4).lt
  have Sv40 := Safe.keep Kp35 (allS Sf23 (allS Sf22 all0)) CH24.1 (own_safe_or H35_1 Sf22)
  have fS41 := own_fit.add fA fK1 (by simp only [List.length_append, List.length_nil, own_pl1, own_pl2, own_pl3, own_pl4, own_pl5]; omega)
  refine own_go (fun _ => XS.aloadN X35.here hx rfl (hb hby d3_12) rfl rfl) ?_
  have ne42 : a1 ≠ b11 := own_ne (by omega)
  have ne43 : a1 ≠ vb_18 := own_ne (by omega)
  have F44 := (Fld.keep (Fld.ext E21 (Fld.keep (Fld.ext E11 P2) Kp18 (ninS ne42 nin0))) Kp35 (ninS ne42 (ninS ne43 nin0)))
  obtain ⟨T45, X45, e45, st45⟩ := getF X35 hx hZ hown (host := "") (Or.inl (hw _ (List.mem_of_getElem? (i := 9) rfl))) Via.refl rfl F44 (g := (mkF m 13 #[.val (.ref a1)] [(.ref a1), (.ref b11)])) rfl rfl (hb hby d3_13)
  refine own_go st45 ?_
  show ∃ t o, Steps p.tables e below (T45.setTop (mkF m 16 #[.val (.ref a1)] [(.long qw), (.ref b11)])) t ∧ _
  have F46 := (Old.keep F31 Kp35 (allS ge15 (allS ge32 all0)))
  have zl47 : n0 ≤ T35.heap.size := by omega
  obtain ⟨cq48, kq48, q48a, q48b, q48c⟩ := isOf hZ e45 G35_0
  obtain ⟨_, _, ⟨T48, L48, k48, n48⟩, -, X48, ⟨Lc48, hQ48, l48, y48, z48⟩, st48⟩ := X45.virtualBack hx (y := (⟨"java/lang/StringBuilder", "append", "(J)Ljava/lang/StringBuilder;"⟩ : MethodName)) (z := (⟨"java/lang/StringBuilder", "append", "(J)Ljava/lang/StringBuilder;"⟩ : MethodName)) hown (mvT hZ w_121) (mvT hZ w_122) (notFace_of_selects (args := #[]) (mvT hZ w_124)) (mvT hZ w_124) (mvT hZ w_123) (by decide) (backOf (W := 0) (rmSBj l Z a0 hw [] b11 vb2_35 kv2_35 cp2_35 ([] ++ own_p1) (((0 : Int32) + (20 : Int32))) qw zc gd ge kd ke T35.heap n0 zl47 G35_0 G35_1 G35_2 G35_3 G35_4 G35_5 F46 P6 P7 P8 P9 P10 hzc (fS41 : own_fit ([] ++ own_p1) ((0 : Int32) + (20 : Int32))) (by simp only [List.length_append, List.length_nil, own_pl1, own_pl2, own_pl3, own_pl4, own_pl5]; omega) (by have q := H35_0; unfold own_cap at q; simp only [List.length_append, List.length_nil, own_pl1, own_pl2, own_pl3, own_pl4, own_pl5] at q ⊢; omega) (H35_0 : own_cap ([] ++ own_p1) cp2_35) ge15 H35_3 H35_2) hZ w_125 w_24 (by decide) (by decide)) q48a q48c (g := (mkF m 16 #[.val (.ref a1)] [(.long qw), (.ref b11)])) rfl (by rw [hml]; rfl) (Steps.refl _) (argsL := [(.long qw)]) (rest := []) (lenOf pd__28J_29Ljava_2flang_2fStringBuilder_3b rfl) rfl (by show 2 * 0 + _ ≤ _; exact Nat.le_of_eq rfl) (hb hby d3_16) (fun _ _ => ⟨rfl, e45, (by decide : 5 + 1 ≤ _), (by decide : 246 + 142 ≤ _)⟩)
  dsimp only [Pt.U, Pt.locs, Pt.cells, Pt.slots] at X48 l48 y48 z48 st48 hQ48
  rw [l48, y48, z48] at X48
  obtain ⟨vb2_48, kv2_48, cp2_48, cn2_48, rfl, Nq48, Kp48, G48_0, G48_1, G48_2, G48_3, G48_4, G48_5, H48_0, H48_1, H48_2, H48_3, H48_4⟩ := hQ48
  have N48 := Fr.app N35 Nq48
  refine own_goT st48 ?_
  have le_48 : T35.heap.size ≤ T48.heap.size := Kp48.1
  have sz49 : h0.size ≤ vb2_35 := by omega
  have K48 : Keep h0 T48.heap [] := Keep.trans K35 Kp48 (allS (Or.inr sz19) (allS (Or.inr sz49) all0))
  have Sf50 := Safe.keep Kp48 (allS Sf38 (allS Sv40 all0)) CH39.1 Sf38
  have Sf51 := Safe.keep Kp48 (allS Sf38 (allS Sv40 all0)) CH39.1 Sv40
  have CH52 := CHr.trans CH39 (CHr.keep Kp48 (allS Sf38 (allS Sv40 all0)) CH39.1)
  have lt_vb2_48 : vb2_48 < T48.heap.size := (G48_4).lt
  have Sv53 := Safe.keep Kp48 (allS Sf38 (allS Sv40 all0)) CH39.1 (own_safe_or H48_2 Sv40)
  obtain ⟨a54, T54, h54, kS54, b54, kb54, X54, e54, E54, hS, hk54, hZ, hown, A54, Fc54, Fv54, Av54, lta54, ltb54, cr54, -, hne54, st54⟩ := ldcCH X48 hx hZ hown (hw _ (List.mem_of_getElem? (i := 146) rfl)) wS rfl hS (by omega) hEL own_mem46 CH52.1 (vs := [(.int (44 : Int32)), (.int (32 : Int32)), (.int (100 : Int32)), (.int (117 : Int32)), (.int (101 : Int32)), (.int (61 : Int32))]) (z := 6) own_ct_2c_20_64_75_65_3d (by decide) rfl (g := (mkF m 19 #[.val (.ref a1)] [(.ref b11)])) rfl (hb hby d3_19) (n := 24) (by decide) (by decide) (by decide) (by decide)
  refine own_go st54 ?_
  have K54 : Keep h0 h54 [] := Keep.ext K48 E54
  have le_54 : T48.heap.size ≤ h54.size := E54.1
  have Sf55 := CHr.safe cr54 (show (b11 : Nat) < T48.heap.size by omega) Sf50
  have Sf56 := CHr.safe cr54 (show (vb2_48 : Nat) < T48.heap.size by omega) Sv53
  have CH57 := CHr.trans CH52 cr54
  have lt_a54 := own_ltn lta54
  have lt_b54 := own_ltn ltb54
  have Pc2 : Arv Z h54 b54 kb54 .byte (6 : Int32) own_p2 (.int (0 : Int32)) := Av54
  have fK2 : own_fit own_p2 (6 : Int32) := rfl
  show ∃ t o, Steps p.tables e below (T54.setTop (mkF m 21 #[.val (.ref a1)] [(.ref a54), (.ref b11)])) t ∧ _
  have F58 := (Exa.ext E54 G48_0)
  have F59 := (Fld.ext E54 G48_1)
  have F60 := (Fld.ext E54 G48_2)
  have F61 := (Fld.ext E54 G48_3)
  have F62 := (Exa.ext E54 G48_4)
  have F63 := (G48_5.ext E54)
  have F64 := ((Old.keep F46 Kp48 (allS ge15 (allS H35_3 all0))).ext E54)
  have zl65 : n0 ≤ h54.size := by omega
  obtain ⟨cq66, kq66, q66a, q66b, q66c⟩ := isOf hZ e54 F58
  obtain ⟨_, _, ⟨T66, L66, k66, n66⟩, -, X66, ⟨Lc66, hQ66, l66, y66, z66⟩, st66⟩ := X54.virtualBack hx (y := (⟨"java/lang/StringBuilder", "append", "(Ljava/lang/String;)Ljava/lang/StringBuilder;"⟩ : MethodName)) (z := (⟨"java/lang/StringBuilder", "append", "(Ljava/lang/String;)Ljava/lang/StringBuilder;"⟩ : MethodName)) hown (mvT hZ w_48) (mvT hZ w_49) (notFace_of_selects (args := #[]) (mvT hZ w_51)) (mvT hZ w_51) (mvT hZ w_50) (by decide) (backOf (W := 0) (rmSBa l Z a0 hw [] a54 b54 kb54 (6 : Int32) own_p2 b11 vb2_48 kv2_48 cp2_48 ((([] ++ own_p1) ++ own_dec qw)) cn2_48 zc h54 n0 zl65 A54 Fv54 Fc54 Pc2 F58 F59 F60 F61 F62 F63 F64 P6 hzc (fK2 : own_fit own_p2 (6 : Int32)) (H48_1 : own_fit (([] ++ own_p1) ++ own_dec qw) cn2_48) (by simp only [List.length_append, List.length_nil, own_pl1, own_pl2, own_pl3, own_pl4, own_pl5]; omega) (by have q := H48_0; unfold own_cap at q; simp only [List.length_append, List.length_nil, own_pl1, own_pl2, own_pl3, own_pl4, own_pl5] at q ⊢; omega) (H48_0 : own_cap (([] ++ own_p1) ++ own_dec qw) cp2_48) ge15 H48_4 H48_3 (Ne.symm (hne54 _ Sf55).1) (Ne.symm (hne54 _ Sf55).2)) hZ w_52 w_24 (by decide) (by decide)) q66a q66c (g := (mkF m 21 #[.val (.ref a1)] [(.ref a54), (.ref b11)])) rfl (by rw [hml]; rfl) (Steps.refl _) (argsL := [(.ref a54)]) (rest := []) (lenOf pd_h63c63b4d rfl) rfl (by show 2 * 0 + _ ≤ _; exact Nat.le_of_eq rfl) (hb hby d3_21) (fun _ _ => ⟨rfl, e54, (by decide : 8 + 1 ≤ _), (by decide : 416 + 142 ≤ _)⟩)
  dsimp only [Pt.U, Pt.locs, Pt.cells, Pt.slots] at X66 l66 y66 z66 st66 hQ66
  rw [l66, y66, z66] at X66
  obtain ⟨vb2_66, kv2_66, cp2_66, rfl, Nq66, Kp66, G66_0, G66_1, G66_2, G66_3, G66_4, G66_5, H66_0, H66_1, H66_2, H66_3⟩ := hQ66
  have N66 := Fr.app N48 Nq66
  refine own_goT st66 ?_
  have le_66 : h54.size ≤ T66.heap.size := Kp66.1
  have sz67 : h0.size ≤ vb2_48 := by omega
  have K66 : Keep h0 T66.heap [] := Keep.trans K54 Kp66 (allS (Or.inr sz19) (allS (Or.inr sz67) all0))
  have Sf68 := Safe.keep Kp66 (allS Sf55 (allS Sf56 all0)) CH57.1 Sf55
  have Sf69 := Safe.keep Kp66 (allS Sf55 (allS Sf56 all0)) CH57.1 Sf56
  have CH70 := CHr.trans CH57 (CHr.keep Kp66 (allS Sf55 (allS Sf56 all0)) CH57.1)
  have lt_vb2_66 : vb2_66 < T66.heap.size := (G66_4).lt
  have Sv71 := Safe.keep Kp66 (allS Sf55 (allS Sf56 all0)) CH57.1 (own_safe_or H66_1 Sf56)
  have fS72 := own_fit.add H48_1 fK2 (by simp only [List.length_append, List.length_nil, own_pl1, own_pl2, own_pl3, own_pl4, own_pl5]; omega)
  refine own_go (fun _ => XS.aloadN X66.here hx rfl (hb hby d3_24) rfl rfl) ?_
  have ne73 : a1 ≠ vb2_35 := own_ne (by omega)
  have ne74 : a1 ≠ vb2_48 := own_ne (by omega)
  have F75 := (Fld.keep (Fld.ext E54 (Fld.keep (Fld.keep (Fld.ext E21 (Fld.keep (Fld.ext E11 P3) Kp18 (ninS ne42 nin0))) Kp35 (ninS ne42 (ninS ne43 nin0))) Kp48 (ninS ne42 (ninS ne73 nin0)))) Kp66 (ninS ne42 (ninS ne74 nin0)))
  obtain ⟨T76, X76, e76, st76⟩ := getF X66 hx hZ hown (host := "") (Or.inl (hw _ (List.mem_of_getElem? (i := 11) rfl))) Via.refl rfl F75 (g := (mkF m 25 #[.val (.ref a1)] [(.ref a1), (.ref b11)])) rfl rfl (hb hby d3_25)
  refine own_go st76 ?_
  show ∃ t o, Steps p.tables e below (T76.setTop (mkF m 28 #[.val (.ref a1)] [(.long qd), (.ref b11)])) t ∧ _
  have F77 := (Old.keep F64 Kp66 (allS ge15 (allS H48_4 all0)))
  have zl78 : n0 ≤ T66.heap.size := by omega
  obtain ⟨cq79, kq79, q79a, q79b, q79c⟩ := isOf hZ e76 G66_0
  obtain ⟨_, _, ⟨T79, L79, k79, n79⟩, -, X79, ⟨Lc79, hQ79, l79, y79, z79⟩, st79⟩ := X76.virtualBack hx (y := (⟨"java/lang/StringBuilder", "append", "(J)Ljava/lang/StringBuilder;"⟩ : MethodName)) (z := (⟨"java/lang/StringBuilder", "append", "(J)Ljava/lang/StringBuilder;"⟩ : MethodName)) hown (mvT hZ w_121) (mvT hZ w_122) (notFace_of_selects (args := #[]) (mvT hZ w_124)) (mvT hZ w_124) (mvT hZ w_123) (by decide) (backOf (W := 0) (rmSBj l Z a0 hw [] b11 vb2_66 kv2_66 cp2_66 (((([] ++ own_p1) ++ own_dec qw) ++ own_p2)) ((cn2_48 + (6 : Int32))) qd zc gd ge kd ke T66.heap n0 zl78 G66_0 G66_1 G66_2 G66_3 G66_4 G66_5 F77 P6 P7 P8 P9 P10 hzc (fS72 : own_fit ((([] ++ own_p1) ++ own_dec qw) ++ own_p2) (cn2_48 + (6 : Int32))) (by simp only [List.length_append, List.length_nil, own_pl1, own_pl2, own_pl3, own_pl4, own_pl5]; omega) (by have q := H66_0; unfold own_cap at q; simp only [List.length_append, List.length_nil, own_pl1, own_pl2, own_pl3, own_pl4, own_pl5] at q ⊢; omega) (H66_0 : own_cap ((([] ++ own_p1) ++ own_dec qw) ++ own_p2) cp2_66) ge15 H66_3 H66_2) hZ w_125 w_24 (by decide) (by decide)) q79a q79c (g := (mkF m 28 #[.val (.ref a1)] [(.long qd), (.ref b11)])) rfl (by rw [hml]; rfl) (Steps.refl _) (argsL := [(.long qd)]) (rest := []) (lenOf pd__28J_29Ljava_2flang_2fStringBuilder_3b rfl) rfl (by show 2 * 0 + _ ≤ _; exact Nat.le_of_eq rfl) (hb hby d3_28) (fun _ _ => ⟨rfl, e76, (by decide : 9 + 1 ≤ _), (by decide : 558 + 142 ≤ _)⟩)
  dsimp only [Pt.U, Pt.locs, Pt.cells, Pt.slots] at X79 l79 y79 z79 st79 hQ79
  rw [l79, y79, z79] at X79
  obtain ⟨vb2_79, kv2_79, cp2_79, cn2_79, rfl, Nq79, Kp79, G79_0, G79_1, G79_2, G79_3, G79_4, G79_5, H79_0, H79_1, H79_2, H79_3, H79_4⟩ := hQ79
  have N79 := Fr.app N66 Nq79
  refine own_goT st79 ?_
  have le_79 : T66.heap.size ≤ T79.heap.size := Kp79.1
  have sz80 : h0.size ≤ vb2_66 := by omega
  have K79 : Keep h0 T79.heap [] := Keep.trans K66 Kp79 (allS (Or.inr sz19) (allS (Or.inr sz80) all0))
  have Sf81 := Safe.keep Kp79 (allS Sf68 (allS Sv71 all0)) CH70.1 Sf68
  have Sf82 := Safe.keep Kp79 (allS Sf68 (allS Sv71 all0)) CH70.1 Sv71
  have CH83 := CHr.trans CH70 (CHr.keep Kp79 (allS Sf68 (allS Sv71 all0)) CH70.1)
  have lt_vb2_79 : vb2_79 < T79.heap.size := (G79_4).lt
  have Sv84 := Safe.keep Kp79 (allS Sf68 (allS Sv71 all0)) CH70.1 (own_safe_or H79_2 Sv71)
  obtain ⟨a85, T85, h85, kS85, b85, kb85, X85, e85, E85, hS, hk85, hZ, hown, A85, Fc85, Fv85, Av85, lta85, ltb85, cr85, -, hne85, st85⟩ := ldcCH X79 hx hZ hown (hw _ (List.mem_of_getElem? (i := 147) rfl)) wS rfl hS (by omega) hEL own_mem48 CH83.1 (vs := [(.int (44 : Int32)), (.int (32 : Int32)), (.int (105 : Int32)), (.int (110 : Int32)), (.int (70 : Int32)), (.int (108 : Int32)), (.int (105 : Int32)), (.int (103 : Int32)), (.int (104 : Int32)), (.int (116 : Int32)), (.int (61 : Int32))]) (z := 11) own_ct_2c_20_69_6e_46_6c_69_67_68_74_3d (by decide) rfl (g := (mkF m 31 #[.val (.ref a1)] [(.ref b11)])) rfl (hb hby d3_31) (n := 44) (by decide) (by decide) (by decide) (by decide)
  refine own_go st85 ?_
  have K85 : Keep h0 h85 [] := Keep.ext K79 E85
  have le_85 : T79.heap.size ≤ h85.size := E85.1
  have Sf86 := CHr.safe cr85 (show (b11 : Nat) < T79.heap.size by omega) Sf81
  have Sf87 := CHr.safe cr85 (show (vb2_79 : Nat) < T79.heap.size by omega) Sv84
  have CH88 := CHr.trans CH83 cr85
  have lt_a85 := own_ltn lta85
  have lt_b85 := own_ltn ltb85
  have Pc3 : Arv Z h85 b85 kb85 .byte (11 : Int32) own_p3 (.int (0 : Int32)) := Av85
  have fK3 : own_fit own_p3 (11 : Int32) := rfl
  show ∃ t o, Steps p.tables e below (T85.setTop (mkF m 33 #[.val (.ref a1)] [(.ref a85), (.ref b11)])) t ∧ _
  have F89 := (Exa.ext E85 G79_0)
  have F90 := (Fld.ext E85 G79_1)
  have F91 := (Fld.ext E85 G79_2)
  have F92 := (Fld.ext E85 G79_3)
  have F93 := (Exa.ext E85 G79_4)
  have F94 := (G79_5.ext E85)
  have F95 := ((Old.keep F77 Kp79 (allS ge15 (allS H66_3 all0))).ext E85)
  have zl96 : n0 ≤ h85.size := by omega
  obtain ⟨cq97, kq97, q97a, q97b, q97c⟩ := isOf hZ e85 F89
  obtain ⟨_, _, ⟨T97, L97, k97, n97⟩, -, X97, ⟨Lc97, hQ97, l97, y97, z97⟩, st97⟩ := X85.virtualBack hx (y := (⟨"java/lang/StringBuilder", "append", "(Ljava/lang/String;)Ljava/lang/StringBuilder;"⟩ : MethodName)) (z := (⟨"java/lang/StringBuilder", "append", "(Ljava/lang/String;)Ljava/lang/StringBuilder;"⟩ : MethodName)) hown (mvT hZ w_48) (mvT hZ w_49) (notFace_of_selects (args := #[]) (mvT hZ w_51)) (mvT hZ w_51) (mvT hZ w_50) (by decide) (backOf (W := 0) (rmSBa l Z a0 hw [] a85 b85 kb85 (11 : Int32) own_p3 b11 vb2_79 kv2_79 cp2_79 ((((([] ++ own_p1) ++ own_dec qw) ++ own_p2) ++ own_dec qd)) cn2_79 zc h85 n0 zl96 A85 Fv85 Fc85 Pc3 F89 F90 F91 F92 F93 F94 F95 P6 hzc (fK3 : own_fit own_p3 (11 : Int32)) (H79_1 : own_fit (((([] ++ own_p1) ++ own_dec qw) ++ own_p2) ++ own_dec qd) cn2_79) (by simp only [List.length_append, List.length_nil, own_pl1, own_pl2, own_pl3, own_pl4, own_pl5]; omega) (by have q := H79_0; unfold own_cap at q; simp only [List.length_append, List.length_nil, own_pl1, own_pl2, own_pl3, own_pl4, own_pl5] at q ⊢; omega) (H79_0 : own_cap (((([] ++ own_p1) ++ own_dec qw) ++ own_p2) ++ own_dec qd) cp2_79) ge15 H79_4 H79_3 (Ne.symm (hne85 _ Sf86).1) (Ne.symm (hne85 _ Sf86).2)) hZ w_52 w_24 (by decide) (by decide)) q97a q97c (g := (mkF m 33 #[.val (.ref a1)] [(.ref a85), (.ref b11)])) rfl (by rw [hml]; rfl) (Steps.refl _) (argsL := [(.ref a85)]) (rest := []) (lenOf pd_h63c63b4d rfl) rfl (by show 2 * 0 + _ ≤ _; exact Nat.le_of_eq rfl) (hb hby d3_33) (fun _ _ => ⟨rfl, e85, (by decide : 12 + 1 ≤ _), (by decide : 748 + 142 ≤ _)⟩)
  dsimp only [Pt.U, Pt.locs, Pt.cells, Pt.slots] at X97 l97 y97 z97 st97 hQ97
  rw [l97, y97, z97] at X97
  obtain ⟨vb2_97, kv2_97, cp2_97, rfl, Nq97, Kp97, G97_0, G97_1, G97_2, G97_3, G97_4, G97_5, H97_0, H97_1, H97_2, H97_3⟩ := hQ97
  have N97 := Fr.app N79 Nq97
  refine own_goT st97 ?_
  have le_97 : h85.size ≤ T97.heap.size := Kp97.1
  have sz98 : h0.size ≤ vb2_79 := by omega
  have K97 : Keep h0 T97.heap [] := Keep.trans K85 Kp97 (allS (Or.inr sz19) (allS (Or.inr sz98) all0))
  have Sf99 := Safe.keep Kp97 (allS Sf86 (allS Sf87 all0)) CH88.1 Sf86
  have Sf100 := Safe.keep Kp97 (allS Sf86 (allS Sf87 all0)) CH88.1 Sf87
  have CH101 := CHr.trans CH88 (CHr.keep Kp97 (allS Sf86 (allS Sf87 all0)) CH88.1)
  have lt_vb2_97 : vb2_97 < T97.heap.size := (G97_4).lt
  have Sv102 := Safe.keep Kp97 (allS Sf86 (allS Sf87 all0)) CH88.1 (own_safe_or H97_1 Sf87)
  have fS103 := own_fit.add H79_1 fK3 (by simp only [List.length_append, List.length_nil, own_pl1, own_pl2, own_pl3, own_pl4, own_pl5]; omega)
  refine own_go (fun _ => XS.aloadN X97.here hx rfl (hb hby d3_36) rfl rfl) ?_
  have ne104 : a1 ≠ vb2_66 := own_ne (by omega)
  have ne105 : a1 ≠ vb2_79 := own_ne (by omega)
  have F106 := (Fld.keep (Fld.ext E85 (Fld.keep (Fld.keep (Fld.ext E54 (Fld.keep (Fld.keep (Fld.ext E21 (Fld.keep (Fld.ext E11 P4) Kp18 (ninS ne42 nin0))) Kp35 (ninS ne42 (ninS ne43 nin0))) Kp48 (ninS ne42 (ninS ne73 nin0)))) Kp66 (ninS ne42 (ninS ne74 nin0))) Kp79 (ninS ne42 (ninS ne104 nin0)))) Kp97 (ninS ne42 (ninS ne105 nin0)))
  obtain ⟨T107, X107, e107, st107⟩ := getF X97 hx hZ hown (host := "") (Or.inl (hw _ (List.mem_of_getElem? (i := 13) rfl))) Via.refl rfl F106 (g := (mkF m 37 #[.val (.ref a1)] [(.ref a1), (.ref b11)])) rfl rfl (hb hby d3_37)
  refine own_go st107 ?_
  show ∃ t o, Steps p.tables e below (T107.setTop (mkF m 40 #[.val (.ref a1)] [(.long qf), (.ref b11)])) t ∧ _
  have F108 := (Old.keep F95 Kp97 (allS ge15 (allS H79_4 all0)))
  have zl109 : n0 ≤ T97.heap.size := by omega
  obtain ⟨cq110, kq110, q110a, q110b, q110c⟩ := isOf hZ e107 G97_0
  obtain ⟨_, _, ⟨T110, L110, k110, n110⟩, -, X110, ⟨Lc110, hQ110, l110, y110, z110⟩, st110⟩ := X107.virtualBack hx (y := (⟨"java/lang/StringBuilder", "append", "(J)Ljava/lang/StringBuilder;"⟩ : MethodName)) (z := (⟨"java/lang/StringBuilder", "append", "(J)Ljava/lang/StringBuilder;"⟩ : MethodName)) hown (mvT hZ w_121) (mvT hZ w_122) (notFace_of_selects (args := #[]) (mvT hZ w_124)) (mvT hZ w_124) (mvT hZ w_123) (by decide) (backOf (W := 0) (rmSBj l Z a0 hw [] b11 vb2_97 kv2_97 cp2_97 (((((([] ++ own_p1) ++ own_dec qw) ++ own_p2) ++ own_dec qd) ++ own_p3)) ((cn2_79 + (11 : Int32))) qf zc gd ge kd ke T97.heap n0 zl109 G97_0 G97_1 G97_2 G97_3 G97_4 G97_5 F108 P6 P7 P8 P9 P10 hzc (fS103 : own_fit ((((([] ++ own_p1) ++ own_dec qw) ++ own_p2) ++ own_dec qd) ++ own_p3) (cn2_79 + (11 : Int32))) (by simp only [List.length_append, List.length_nil, own_pl1, own_pl2, own_pl3, own_pl4, own_pl5]; omega) (by have q := H97_0; unfold own_cap at q; simp only [List.length_append, List.length_nil, own_pl1, own_pl2, own_pl3, own_pl4, own_pl5] at q ⊢; omega) (H97_0 : own_cap ((((([] ++ own_p1) ++ own_dec qw) ++ own_p2) ++ own_dec qd) ++ own_p3) cp2_97) ge15 H97_3 H97_2) hZ w_125 w_24 (by decide) (by decide)) q110a q110c (g := (mkF m 40 #[.val (.ref a1)] [(.long qf), (.ref b11)])) rfl (by rw [hml]; rfl) (Steps.refl _) (argsL := [(.long qf)]) (rest := []) (lenOf pd__28J_29Ljava_2flang_2fStringBuilder_3b rfl) rfl (by show 2 * 0 + _ ≤ _; exact Nat.le_of_eq rfl) (hb hby d3_40) (fun _ _ => ⟨rfl, e107, (by decide : 13 + 1 ≤ _), (by decide : 890 + 142 ≤ _)⟩)
  dsimp only [Pt.U, Pt.locs, Pt.cells, Pt.slots] at X110 l110 y110 z110 st110 hQ110
  rw [l110, y110, z110] at X110
  obtain ⟨vb2_110, kv2_110, cp2_110, cn2_110, rfl, Nq110, Kp110, G110_0, G110_1, G110_2, G110_3, G110_4, G110_5, H110_0, H110_1, H110_2, H110_3, H110_4⟩ := hQ110
  have N110 := Fr.app N97 Nq110
  refine own_goT st110 ?_
  have le_110 : T97.heap.size ≤ T110.heap.size := Kp110.1
  have sz111 : h0.size ≤ vb2_97 := by omega
  have K110 : Keep h0 T110.heap [] := Keep.trans K97 Kp110 (allS (Or.inr sz19) (allS (Or.inr sz111) all0))
  have Sf112 := Safe.keep Kp110 (allS Sf99 (allS Sv102 all0)) CH101.1 Sf99
  have Sf113 := Safe.keep Kp110 (allS Sf99 (allS Sv102 all0)) CH101.1 Sv102
  have CH114 := CHr.trans CH101 (CHr.keep Kp110 (allS Sf99 (allS Sv102 all0)) CH101.1)
  have lt_vb2_110 : vb2_110 < T110.heap.size := (G110_4).lt
  have Sv115 := Safe.keep Kp110 (allS Sf99 (allS Sv102 all0)) CH101.1 (own_safe_or H110_2 Sv102)
  obtain ⟨a116, T116, h116, kS116, b116, kb116, X116, e116, E116, hS, hk116, hZ, hown, A116, Fc116, Fv116, Av116, lta116, ltb116, cr116, -, hne116, st116⟩ := ldcCH X110 hx hZ hown (hw _ (List.mem_of_getElem? (i := 151) rfl)) wS rfl hS (by omega) hEL own_mem50 CH114.1 (vs := [(.int (44 : Int32)), (.int (32 : Int32)), (.int (100 : Int32)), (.int (101 : Int32)), (.int (97 : Int32)), (.int (100 : Int32)), (.int (61 : Int32))]) (z := 7) own_ct_2c_20_64_65_61_64_3d (by decide) rfl (g := (mkF m 43 #[.val (.ref a1)] [(.ref b11)])) rfl (hb hby d3_43) (n := 28) (by decide) (by decide) (by decide) (by decide)
  refine own_go st116 ?_
  have K116 : Keep h0 h116 [] := Keep.ext K110 E116
  have le_116 : T110.heap.size ≤ h116.size := E116.1
  have Sf117 := CHr.safe cr116 (show (b11 : Nat) < T110.heap.size by omega) Sf112
  have Sf118 := CHr.safe cr116 (show (vb2_110 : Nat) < T110.heap.size by omega) Sv115
  have CH119 := CHr.trans CH114 cr116
  have lt_a116 := own_ltn lta116
  have lt_b116 := own_ltn ltb116
  have Pc4 : Arv Z h116 b116 kb116 .byte (7 : Int32) own_p4 (.int (0 : Int32)) := Av116
  have fK4 : own_fit own_p4 (7 : Int32) := rfl
  show ∃ t o, Steps p.tables e below (T116.setTop (mkF m 45 #[.val (.ref a1)] [(.ref a116), (.ref b11)])) t ∧ _
  have F120 := (Exa.ext E116 G110_0)
  have F121 := (Fld.ext E116 G110_1)
  have F122 := (Fld.ext E116 G110_2)
  have F123 := (Fld.ext E116 G110_3)
  have F124 := (Exa.ext E116 G110_4)
  have F125 := (G110_5.ext E116)
  have F126 := ((Old.keep F108 Kp110 (allS ge15 (allS H97_3 all0))).ext E116)
  have zl127 : n0 ≤ h116.size := by omega
  obtain ⟨cq128, kq128, q128a, q128b, q128c⟩ := isOf hZ e116 F120
  obtain ⟨_, _, ⟨T128, L128, k128, n128⟩, -, X128, ⟨Lc128, hQ128, l128, y128, z128⟩, st128⟩ := X116.virtualBack hx (y := (⟨"java/lang/StringBuilder", "append", "(Ljava/lang/String;)Ljava/lang/StringBuilder;"⟩ : MethodName)) (z := (⟨"java/lang/StringBuilder", "append", "(Ljava/lang/String;)Ljava/lang/StringBuilder;"⟩ : MethodName)) hown (mvT hZ w_48) (mvT hZ w_49) (notFace_of_selects (args := #[]) (mvT hZ w_51)) (mvT hZ w_51) (mvT hZ w_50) (by decide) (backOf (W := 0) (rmSBa l Z a0 hw [] a116 b116 kb116 (7 : Int32) own_p4 b11 vb2_110 kv2_110 cp2_110 ((((((([] ++ own_p1) ++ own_dec qw) ++ own_p2) ++ own_dec qd) ++ own_p3) ++ own_dec qf)) cn2_110 zc h116 n0 zl127 A116 Fv116 Fc116 Pc4 F120 F121 F122 F123 F124 F125 F126 P6 hzc (fK4 : own_fit own_p4 (7 : Int32)) (H110_1 : own_fit (((((([] ++ own_p1) ++ own_dec qw) ++ own_p2) ++ own_dec qd) ++ own_p3) ++ own_dec qf) cn2_110) (by simp only [List.length_append, List.length_nil, own_pl1, own_pl2, own_pl3, own_pl4, own_pl5]; omega) (by have q := H110_0; unfold own_cap at q; simp only [List.length_append, List.length_nil, own_pl1, own_pl2, own_pl3, own_pl4, own_pl5] at q ⊢; omega) (H110_0 : own_cap (((((([] ++ own_p1) ++ own_dec qw) ++ own_p2) ++ own_dec qd) ++ own_p3) ++ own_dec qf) cp2_110) ge15 H110_4 H110_3 (Ne.symm (hne116 _ Sf117).1) (Ne.symm (hne116 _ Sf117).2)) hZ w_52 w_24 (by decide) (by decide)) q128a q128c (g := (mkF m 45 #[.val (.ref a1)] [(.ref a116), (.ref b11)])) rfl (by rw [hml]; rfl) (Steps.refl _) (argsL := [(.ref a116)]) (rest := []) (lenOf pd_h63c63b4d rfl) rfl (by show 2 * 0 + _ ≤ _; exact Nat.le_of_eq rfl) (hb hby d3_45) (fun _ _ => ⟨rfl, e116, (by decide : 16 + 1 ≤ _), (by decide : 1064 + 142 ≤ _)⟩)
  dsimp only [Pt.U, Pt.locs, Pt.cells, Pt.slots] at X128 l128 y128 z128 st128 hQ128
  rw [l128, y128, z128] at X128
  obtain ⟨vb2_128, kv2_128, cp2_128, rfl, Nq128, Kp128, G128_0, G128_1, G128_2, G128_3, G128_4, G128_5, H128_0, H128_1, H128_2, H128_3⟩ := hQ128
  have N128 := Fr.app N110 Nq128
  refine own_goT st128 ?_
  have le_128 : h116.size ≤ T128.heap.size := Kp128.1
  have sz129 : h0.size ≤ vb2_110 := by omega
  have K128 : Keep h0 T128.heap [] := Keep.trans K116 Kp128 (allS (Or.inr sz19) (allS (Or.inr sz129) all0))
  have Sf130 := Safe.keep Kp128 (allS Sf117 (allS Sf118 all0)) CH119.1 Sf117
  have Sf131 := Safe.keep Kp128 (allS Sf117 (allS Sf118 all0)) CH119.1 Sf118
  have CH132 := CHr.trans CH119 (CHr.keep Kp128 (allS Sf117 (allS Sf118 all0)) CH119.1)
  have lt_vb2_128 : vb2_128 < T128.heap.size := (G128_4).lt
  have Sv133 := Safe.keep Kp128 (allS Sf117 (allS Sf118 all0)) CH119.1 (own_safe_or H128_1 Sf118)
  have fS134 := own_fit.add H110_1 fK4 (by simp only [List.length_append, List.length_nil, own_pl1, own_pl2, own_pl3, own_pl4, own_pl5]; omega)
  refine own_go (fun _ => XS.aloadN X128.here hx rfl (hb hby d3_48) rfl rfl) ?_
  have ne135 : a1 ≠ vb2_97 := own_ne (by omega)
  have ne136 : a1 ≠ vb2_110 := own_ne (by omega)
  have F137 := (Fld.keep (Fld.ext E116 (Fld.keep (Fld.keep (Fld.ext E85 (Fld.keep (Fld.keep (Fld.ext E54 (Fld.keep (Fld.keep (Fld.ext E21 (Fld.keep (Fld.ext E11 P5) Kp18 (ninS ne42 nin0))) Kp35 (ninS ne42 (ninS ne43 nin0))) Kp48 (ninS ne42 (ninS ne73 nin0)))) Kp66 (ninS ne42 (ninS ne74 nin0))) Kp79 (ninS ne42 (ninS ne104 nin0)))) Kp97 (ninS ne42 (ninS ne105 nin0))) Kp110 (ninS ne42 (ninS ne135 nin0)))) Kp128 (ninS ne42 (ninS ne136 nin0)))
  obtain ⟨T138, X138, e138, st138⟩ := getF X128 hx hZ hown (host := "") (Or.inl (hw _ (List.mem_of_getElem? (i := 15) rfl))) Via.refl rfl F137 (g := (mkF m 49 #[.val (.ref a1)] [(.ref a1), (.ref b11)])) rfl rfl (hb hby d3_49)
  refine own_go st138 ?_
  show ∃ t o, Steps p.tables e below (T138.setTop (mkF m 52 #[.val (.ref a1)] [(.long qx), (.ref b11)])) t ∧ _
  by_cases hgr : (((((((([] ++ own_p1) ++ own_dec qw) ++ own_p2) ++ own_dec qd) ++ own_p3) ++ own_dec qf) ++ own_p4)).length + (own_dec qx).length ≤ cp2_128.toNatClampNeg
  · show ∃ t o, Steps p.tables e below (T138.setTop (mkF m 52 #[.val (.ref a1)] [(.long qx), (.ref b11)])) t ∧ _
    have F139 := (Old.keep F126 Kp128 (allS ge15 (allS H110_4 all0)))
    have zl140 : n0 ≤ T128.heap.size := by omega
    obtain ⟨cq141, kq141, q141a, q141b, q141c⟩ := isOf hZ e138 G128_0
    obtain ⟨_, _, ⟨T141, L141, k141, n141⟩, -, X141, ⟨Lc141, hQ141, l141, y141, z141⟩, st141⟩ := X138.virtualBack hx (y := (⟨"java/lang/StringBuilder", "append", "(J)Ljava/lang/StringBuilder;"⟩ : MethodName)) (z := (⟨"java/lang/StringBuilder", "append", "(J)Ljava/lang/StringBuilder;"⟩ : MethodName)) hown (mvT hZ w_121) (mvT hZ w_122) (notFace_of_selects (args := #[]) (mvT hZ w_124)) (mvT hZ w_124) (mvT hZ w_123) (by decide) (backOf (W := 0) (rmSBj0 l Z a0 hw [] b11 vb2_128 kv2_128 cp2_128 (((((((([] ++ own_p1) ++ own_dec qw) ++ own_p2) ++ own_dec qd) ++ own_p3) ++ own_dec qf) ++ own_p4)) ((cn2_110 + (7 : Int32))) qx zc gd ge kd ke T128.heap n0 zl140 G128_0 G128_1 G128_2 G128_3 G128_4 G128_5 F139 P6 P7 P8 P9 P10 hzc (fS134 : own_fit ((((((([] ++ own_p1) ++ own_dec qw) ++ own_p2) ++ own_dec qd) ++ own_p3) ++ own_dec qf) ++ own_p4) (cn2_110 + (7 : Int32))) (hgr : ((((((([] ++ own_p1) ++ own_dec qw) ++ own_p2) ++ own_dec qd) ++ own_p3) ++ own_dec qf) ++ own_p4).length + (own_dec qx).length ≤ cp2_128.toNatClampNeg) (H128_0 : own_cap ((((((([] ++ own_p1) ++ own_dec qw) ++ own_p2) ++ own_dec qd) ++ own_p3) ++ own_dec qf) ++ own_p4) cp2_128) ge15 H128_3 H128_2) hZ w_125 w_24 (by decide) (by decide)) q141a q141c (g := (mkF m 52 #[.val (.ref a1)] [(.long qx), (.ref b11)])) rfl (by rw [hml]; rfl) (Steps.refl _) (argsL := [(.long qx)]) (rest := []) (lenOf pd__28J_29Ljava_2flang_2fStringBuilder_3b rfl) rfl (by show 2 * 0 + _ ≤ _; exact Nat.le_of_eq rfl) (hb hby d3_52) (fun _ _ => ⟨rfl, e138, (by decide : 17 + 0 ≤ _), (by decide : 1206 + 0 ≤ _)⟩)
    dsimp only [Pt.U, Pt.locs, Pt.cells, Pt.slots] at X141 l141 y141 z141 st141 hQ141
    rw [l141, y141, z141] at X141
    obtain ⟨cn2_141, rfl, Nq141, Kp141, G141_0, G141_1, G141_2, G141_3, G141_4, G141_5, H141_0, H141_1⟩ := hQ141
    have N141 := Fr.app N128 Nq141
    refine own_goT st141 ?_
    have le_141 : T128.heap.size ≤ T141.heap.size := Kp141.1
    have sz142 : h0.size ≤ vb2_128 := by omega
    have K141 : Keep h0 T141.heap [] := Keep.trans K128 Kp141 (allS (Or.inr sz19) (allS (Or.inr sz142) all0))
    have Sf143 := Safe.keep Kp141 (allS Sf130 (allS Sv133 all0)) CH132.1 Sf130
    have Sf144 := Safe.keep Kp141 (allS Sf130 (allS Sv133 all0)) CH132.1 Sv133
    have CH145 := CHr.trans CH132 (CHr.keep Kp141 (allS Sf130 (allS Sv133 all0)) CH132.1)
    obtain ⟨a146, T146, h146, kS146, b146, kb146, X146, e146, E146, hS, hk146, hZ, hown, A146, Fc146, Fv146, Av146, lta146, ltb146, cr146, -, hne146, st146⟩ := ldcCH X141 hx hZ hown w_152 wS rfl hS (by omega) hEL own_mem52 CH145.1 (vs := [(.int (93 : Int32))]) (z := 1) own_ct_5d (by decide) rfl (g := (mkF m 55 #[.val (.ref a1)] [(.ref b11)])) rfl (hb hby d3_55) (n := 4) (by decide) (by decide) (by decide) (by decide)
    refine own_go st146 ?_
    have K146 : Keep h0 h146 [] := Keep.ext K141 E146
    have le_146 : T141.heap.size ≤ h146.size := E146.1
    have Sf147 := CHr.safe cr146 (show (b11 : Nat) < T141.heap.size by omega) Sf143
    have Sf148 := CHr.safe cr146 (show (vb2_128 : Nat) < T141.heap.size by omega) Sf144
    have CH149 := CHr.trans CH145 cr146
    have lt_a146 := own_ltn lta146
    have lt_b146 := own_ltn ltb146
    have Pc5 : Arv Z h146 b146 kb146 .byte (1 : Int32) own_p5 (.int (0 : Int32)) := Av146
    have fK5 : own_fit own_p5 (1 : Int32) := rfl
    show ∃ t o, Steps p.tables e below (T146.setTop (mkF m 57 #[.val (.ref a1)] [(.ref a146), (.ref b11)])) t ∧ _
    have F150 := (Exa.ext E146 G141_0)
    have F151 := (Fld.ext E146 G141_1)
    have F152 := (Fld.ext E146 G141_2)
    have F153 := (Fld.ext E146 G141_3)
    have F154 := (Exa.ext E146 G141_4)
    have F155 := (G141_5.ext E146)
    have F156 := ((Old.keep F139 Kp141 (allS ge15 (allS H128_3 all0))).ext E146)
    have zl157 : n0 ≤ h146.size := by omega
    obtain ⟨cq158, kq158, q158a, q158b, q158c⟩ := isOf hZ e146 F150
    obtain ⟨_, _, ⟨T158, L158, k158, n158⟩, -, X158, ⟨Lc158, hQ158, l158, y158, z158⟩, st158⟩ := X146.virtualBack hx (y := (⟨"java/lang/StringBuilder", "append", "(Ljava/lang/String;)Ljava/lang/StringBuilder;"⟩ : MethodName)) (z := (⟨"java/lang/StringBuilder", "append", "(Ljava/lang/String;)Ljava/lang/StringBuilder;"⟩ : MethodName)) hown (mvT hZ w_48) (mvT hZ w_49) (notFace_of_selects (args := #[]) (mvT hZ w_51)) (mvT hZ w_51) (mvT hZ w_50) (by decide) (backOf (W := 0) (rmSBa l Z a0 hw [] a146 b146 kb146 (1 : Int32) own_p5 b11 vb2_128 kv2_128 cp2_128 ((((((((([] ++ own_p1) ++ own_dec qw) ++ own_p2) ++ own_dec qd) ++ own_p3) ++ own_dec qf) ++ own_p4) ++ own_dec qx)) cn2_141 zc h146 n0 zl157 A146 Fv146 Fc146 Pc5 F150 F151 F152 F153 F154 F155 F156 P6 hzc (fK5 : own_fit own_p5 (1 : Int32)) (H141_1 : own_fit (((((((([] ++ own_p1) ++ own_dec qw) ++ own_p2) ++ own_dec qd) ++ own_p3) ++ own_dec qf) ++ own_p4) ++ own_dec qx) cn2_141) (by simp only [List.length_append, List.length_nil, own_pl1, own_pl2, own_pl3, own_pl4, own_pl5]; omega) (by have q := H141_0; unfold own_cap at q; simp only [List.length_append, List.length_nil, own_pl1, own_pl2, own_pl3, own_pl4, own_pl5] at q ⊢; omega) (H141_0 : own_cap (((((((([] ++ own_p1) ++ own_dec qw) ++ own_p2) ++ own_dec qd) ++ own_p3) ++ own_dec qf) ++ own_p4) ++ own_dec qx) cp2_128) ge15 H128_3 H128_2 (Ne.symm (hne146 _ Sf147).1) (Ne.symm (hne146 _ Sf147).2)) hZ w_52 w_24 (by decide) (by decide)) q158a q158c (g := (mkF m 57 #[.val (.ref a1)] [(.ref a146), (.ref b11)])) rfl (by rw [hml]; rfl) (Steps.refl _) (argsL := [(.ref a146)]) (rest := []) (lenOf pd_h63c63b4d rfl) rfl (by show 2 * 0 + _ ≤ _; exact Nat.le_of_eq rfl) (hb hby d3_57) (fun _ _ => ⟨rfl, e146, (by decide : 19 + 1 ≤ _), (by decide : 1214 + 142 ≤ _)⟩)
    dsimp only [Pt.U, Pt.locs, Pt.cells, Pt.slots] at X158 l158 y158 z158 st158 hQ158
    rw [l158, y158, z158] at X158
    obtain ⟨vb2_158, kv2_158, cp2_158, rfl, Nq158, Kp158, G158_0, G158_1, G158_2, G158_3, G158_4, G158_5, H158_0, H158_1, H158_2, H158_3⟩ := hQ158
    have N158 := Fr.app N141 Nq158
    refine own_goT st158 ?_
    have le_158 : h146.size ≤ T158.heap.size := Kp158.1
    have K158 : Keep h0 T158.heap [] := Keep.trans K146 Kp158 (allS (Or.inr sz19) (allS (Or.inr sz142) all0))
    have Sf159 := Safe.keep Kp158 (allS Sf147 (allS Sf148 all0)) CH149.1 Sf147
    have Sf160 := Safe.keep Kp158 (allS Sf147 (allS Sf148 all0)) CH149.1 Sf148
    have CH161 := CHr.trans CH149 (CHr.keep Kp158 (allS Sf147 (allS Sf148 all0)) CH149.1)
    have lt_vb2_158 : vb2_158 < T158.heap.size := (G158_4).lt
    have Sv162 := Safe.keep Kp158 (allS Sf147 (allS Sf148 all0)) CH149.1 (own_safe_or H158_1 Sf148)
    have fS163 := own_fit.add H141_1 fK5 (by simp only [List.length_append, List.length_nil, own_pl1, own_pl2, own_pl3, own_pl4, own_pl5]; omega)
    show ∃ t o, Steps p.tables e below (T158.setTop (mkF m 60 #[.val (.ref a1)] [(.ref b11)])) t ∧ _
    have F164 := (Old.keep F156 Kp158 (allS ge15 (allS H128_3 all0)))
    have zl165 : n0 ≤ T158.heap.size := by omega
    obtain ⟨cq166, kq166, q166a, q166b, q166c⟩ := isOf hZ rfl G158_0
    obtain ⟨_, _, ⟨T166, L166, k166, n166⟩, -, X166, ⟨Lc166, hQ166, l166, y166, z166⟩, st166⟩ := X158.virtualBack hx (y := (⟨"java/lang/StringBuilder", "toString", "()Ljava/lang/String;"⟩ : MethodName)) (z := (⟨"java/lang/StringBuilder", "toString", "()Ljava/lang/String;"⟩ : MethodName)) hown (mvT hZ w_153) (mvT hZ w_154) (notFace_of_selects (args := #[]) (mvT hZ w_156)) (mvT hZ w_156) (mvT hZ w_155) (by decide) (backOf (W := 0) (rmTs l Z a0 hw [] b11 vb2_158 kv2_158 cp2_158 (((((((((([] ++ own_p1) ++ own_dec qw) ++ own_p2) ++ own_dec qd) ++ own_p3) ++ own_dec qf) ++ own_p4) ++ own_dec qx) ++ own_p5)) ((cn2_141 + (1 : Int32))) zc T158.heap n0 zl165 G158_0 G158_1 G158_2 G158_3 G158_4 G158_5 F164 P6 hzc (fS163 : own_fit ((((((((([] ++ own_p1) ++ own_dec qw) ++ own_p2) ++ own_dec qd) ++ own_p3) ++ own_dec qf) ++ own_p4) ++ own_dec qx) ++ own_p5) (cn2_141 + (1 : Int32))) (H158_0 : own_cap ((((((((([] ++ own_p1) ++ own_dec qw) ++ own_p2) ++ own_dec qd) ++ own_p3) ++ own_dec qf) ++ own_p4) ++ own_dec qx) ++ own_p5) cp2_158)) hZ w_157 w_24 (by decide) (by decide)) q166a q166c (g := (mkF m 60 #[.val (.ref a1)] [(.ref b11)])) rfl (by rw [hml]; rfl) (Steps.refl _) (argsL := []) (rest := []) (lenOf pd__28_29Ljava_2flang_2fString_3b rfl) rfl (by show 2 * 0 + _ ≤ _; exact Nat.le_of_eq rfl) (hb hby d3_60) (fun _ _ => ⟨rfl, rfl, (by decide : 20 + 2 ≤ _), (by decide : 1356 + 146 ≤ _)⟩)
    dsimp only [Pt.U, Pt.locs, Pt.cells, Pt.slots] at X166 l166 y166 z166 st166 hQ166
    rw [l166, y166, z166] at X166
    obtain ⟨b_166, tb_166, kb_166, rfl, Nq166, Kp166, G166_0, G166_1, G166_2, G166_3, H166_0, H166_1⟩ := hQ166
    have N166 := Fr.app N158 Nq166
    refine own_goT st166 ?_
    have le_166 : T158.heap.size ≤ T166.heap.size := Kp166.1
    have K166 : Keep h0 T166.heap [] := Keep.trans K158 Kp166 all0
    have Sf167 := Safe.keep Kp166 all0 CH161.1 Sf159
    have Sf168 := Safe.keep Kp166 all0 CH161.1 Sv162
    have CH169 := CHr.trans CH161 (CHr.keep Kp166 all0 CH161.1)
    have lt_b_166 : b_166 < T166.heap.size := (G166_0).lt
    have lt_tb_166 : tb_166 < T166.heap.size := (G166_3).lt
    have Pz : Arv Z T166.heap tb_166 kb_166 .byte (cn2_141 + (1 : Int32)) (own_qc qw qd qf qx) (.int (0 : Int32)) := G166_3
    show ∃ t o, Steps p.tables e below (T166.setTop (mkF m 63 #[.val (.ref a1)] [(.ref b_166)])) t ∧ _
    obtain ⟨fs, hr, hrun, hended, hW⟩ := Jvm.Stand.leaveW X166 hS (by omega) (v := some (.ref b_166)) (fun h => by rw [Bd.returns] at h; cases h)
    have CHz : CHr Z own_EL s.vm s.heap T166.vm T166.heap := by rw [hh]; exact CHr.trans CH169 (CHv.at X166 hZ hEL CH169.1)
    refine ⟨_, _, ?_, hrun, hended, _, _, rfl, ?_, CHz, ⟨hW.1, hW.2.1, hW.2.2.1, hW.2.2.2.mono (by decide) (by decide)⟩⟩
    · jvm_step X166.here [X166.here.top, hx, (hb hby d3_63), X166.method', Bd.returns, Value.isRef, FieldType.isReference]
      first | (intro acts; rw [hr _ acts rfl rfl rfl]) | rw [hr _ _ rfl rfl rfl]
      exact Steps.refl _
    · show Q_rmQTs Z _ _ _ _ _ _ _ _ _ _ h0 n0 _ T166.heap _
      exact ⟨b_166, tb_166, kb_166, (cn2_141 + (1 : Int32)), rfl, N166, K166, G166_0, G166_1, G166_2, Pz, fS163, (by omega), (by omega)⟩
  · show ∃ t o, Steps p.tables e below (T138.setTop (mkF m 52 #[.val (.ref a1)] [(.long qx), (.ref b11)])) t ∧ _
    have F170 := (Old.keep F126 Kp128 (allS ge15 (allS H110_4 all0)))
    have zl171 : n0 ≤ T128.heap.size := by omega
    obtain ⟨cq172, kq172, q172a, q172b, q172c⟩ := isOf hZ e138 G128_0
    obtain ⟨_, _, ⟨T172, L172, k172, n172⟩, -, X172, ⟨Lc172, hQ172, l172, y172, z172⟩, st172⟩ := X138.virtualBack hx (y := (⟨"java/lang/StringBuilder", "append", "(J)Ljava/lang/StringBuilder;"⟩ : MethodName)) (z := (⟨"java/lang/StringBuilder", "append", "(J)Ljava/lang/StringBuilder;"⟩ : MethodName)) hown (mvT hZ w_121) (mvT hZ w_122) (notFace_of_selects (args := #[]) (mvT hZ w_124)) (mvT hZ w_124) (mvT hZ w_123) (by decide) (backOf (W := 0) (rmSBj l Z a0 hw [] b11 vb2_128 kv2_128 cp2_128 (((((((([] ++ own_p1) ++ own_dec qw) ++ own_p2) ++ own_dec qd) ++ own_p3) ++ own_dec qf) ++ own_p4)) ((cn2_110 + (7 : Int32))) qx zc gd ge kd ke T128.heap n0 zl171 G128_0 G128_1 G128_2 G128_3 G128_4 G128_5 F170 P6 P7 P8 P9 P10 hzc (fS134 : own_fit ((((((([] ++ own_p1) ++ own_dec qw) ++ own_p2) ++ own_dec qd) ++ own_p3) ++ own_dec qf) ++ own_p4) (cn2_110 + (7 : Int32))) (by simp only [List.length_append, List.length_nil, own_pl1, own_pl2, own_pl3, own_pl4, own_pl5]; omega) (by have q := H128_0; unfold own_cap at q; simp only [List.length_append, List.length_nil, own_pl1, own_pl2, own_pl3, own_pl4, own_pl5] at q ⊢; omega) (H128_0 : own_cap ((((((([] ++ own_p1) ++ own_dec qw) ++ own_p2) ++ own_dec qd) ++ own_p3) ++ own_dec qf) ++ own_p4) cp2_128) ge15 H128_3 H128_2) hZ w_125 w_24 (by decide) (by decide)) q172a q172c (g := (mkF m 52 #[.val (.ref a1)] [(.long qx), (.ref b11)])) rfl (by rw [hml]; rfl) (Steps.refl _) (argsL := [(.long qx)]) (rest := []) (lenOf pd__28J_29Ljava_2flang_2fStringBuilder_3b rfl) rfl (by show 2 * 0 + _ ≤ _; exact Nat.le_of_eq rfl) (hb hby d3_52) (fun _ _ => ⟨rfl, e138, (by decide : 17 + 1 ≤ _), (by decide : 1206 + 142 ≤ _)⟩)
    dsimp only [Pt.U, Pt.locs, Pt.cells, Pt.slots] at X172 l172 y172 z172 st172 hQ172
    rw [l172, y172, z172] at X172
    obtain ⟨vb2_172, kv2_172, cp2_172, cn2_172, rfl, Nq172, Kp172, G172_0, G172_1, G172_2, G172_3, G172_4, G172_5, H172_0, H172_1, H172_2, H172_3, H172_4⟩ := hQ172
    have N172 := Fr.app N128 Nq172
    refine own_goT st172 ?_
    have le_172 : T128.heap.size ≤ T172.heap.size := Kp172.1
    have sz173 : h0.size ≤ vb2_128 := by omega
    have K172 : Keep h0 T172.heap [] := Keep.trans K128 Kp172 (allS (Or.inr sz19) (allS (Or.inr sz173) all0))
    have Sf174 := Safe.keep Kp172 (allS Sf130 (allS Sv133 all0)) CH132.1 Sf130
    have Sf175 := Safe.keep Kp172 (allS Sf130 (allS Sv133 all0)) CH132.1 Sv133
    have CH176 := CHr.trans CH132 (CHr.keep Kp172 (allS Sf130 (allS Sv133 all0)) CH132.1)
    have lt_vb2_172 : vb2_172 < T172.heap.size := (G172_4).lt
    have Sv177 := Safe.keep Kp172 (allS Sf130 (allS Sv133 all0)) CH132.1 (own_safe_or H172_2 Sv133)
    obtain ⟨a178, T178, h178, kS178, b178, kb178, X178, e178, E178, hS, hk178, hZ, hown, A178, Fc178, Fv178, Av178, lta178, ltb178, cr178, -, hne178, st178⟩ := ldcCH X172 hx hZ hown w_152 wS rfl hS (by omega) hEL own_mem52 CH176.1 (vs := [(.int (93 : Int32))]) (z := 1) own_ct_5d (by decide) rfl (g := (mkF m 55 #[.val (.ref a1)] [(.ref b11)])) rfl (hb hby d3_55) (n := 4) (by decide) (by decide) (by decide) (by decide)
    refine own_go st178 ?_
    have K178 : Keep h0 h178 [] := Keep.ext K172 E178
    have le_178 : T172.heap.size ≤ h178.size := E178.1
    have Sf179 := CHr.safe cr178 (show (b11 : Nat) < T172.heap.size by omega) Sf174
    have Sf180 := CHr.safe cr178 (show (vb2_172 : Nat) < T172.heap.size by omega) Sv177
    have CH181 := CHr.trans CH176 cr178
    have lt_a178 := own_ltn lta178
    have lt_b178 := own_ltn ltb178
    have Pc5 : Arv Z h178 b178 kb178 .byte (1 : Int32) own_p5 (.int (0 : Int32)) := Av178
    have fK5 : own_fit own_p5 (1 : Int32) := rfl
    show ∃ t o, Steps p.tables e below (T178.setTop (mkF m 57 #[.val (.ref a1)] [(.ref a178), (.ref b11)])) t ∧ _
    have F182 := (Exa.ext E178 G172_0)
    have F183 := (Fld.ext E178 G172_1)
    have F184 := (Fld.ext E178 G172_2)
    have F185 := (Fld.ext E178 G172_3)
    have F186 := (Exa.ext E178 G172_4)
    have F187 := (G172_5.ext E178)
    have F188 := ((Old.keep F170 Kp172 (allS ge15 (allS H128_3 all0))).ext E178)
    have zl189 : n0 ≤ h178.size := by omega
    obtain ⟨cq190, kq190, q190a, q190b, q190c⟩ := isOf hZ e178 F182
    obtain ⟨_, _, ⟨T190, L190, k190, n190⟩, -, X190, ⟨Lc190, hQ190, l190, y190, z190⟩, st190⟩ := X178.virtualBack hx (y := (⟨"java/lang/StringBuilder", "append", "(Ljava/lang/String;)Ljava/lang/StringBuilder;"⟩ : MethodName)) (z := (⟨"java/lang/StringBuilder", "append", "(Ljava/lang/String;)Ljava/lang/StringBuilder;"⟩ : MethodName)) hown (mvT hZ w_48) (mvT hZ w_49) (notFace_of_selects (args := #[]) (mvT hZ w_51)) (mvT hZ w_51) (mvT hZ w_50) (by decide) (backOf (W := 0) (rmSBa0 l Z a0 hw [] a178 b178 kb178 (1 : Int32) own_p5 b11 vb2_172 kv2_172 cp2_172 ((((((((([] ++ own_p1) ++ own_dec qw) ++ own_p2) ++ own_dec qd) ++ own_p3) ++ own_dec qf) ++ own_p4) ++ own_dec qx)) cn2_172 zc h178 n0 zl189 A178 Fv178 Fc178 Pc5 F182 F183 F184 F185 F186 F187 F188 P6 hzc (fK5 : own_fit own_p5 (1 : Int32)) (H172_1 : own_fit (((((((([] ++ own_p1) ++ own_dec qw) ++ own_p2) ++ own_dec qd) ++ own_p3) ++ own_dec qf) ++ own_p4) ++ own_dec qx) cn2_172) (by have q := H172_0; have z := H128_0; have y := hgr; unfold own_cap at q z; simp only [List.length_append, List.length_nil, own_pl1, own_pl2, own_pl3, own_pl4, own_pl5, Int32.toNatClampNeg] at q z y ⊢; omega) (H172_0 : own_cap (((((((([] ++ own_p1) ++ own_dec qw) ++ own_p2) ++ own_dec qd) ++ own_p3) ++ own_dec qf) ++ own_p4) ++ own_dec qx) cp2_172) ge15 H172_4 H172_3) hZ w_52 w_24 (by decide) (by decide)) q190a q190c (g := (mkF m 57 #[.val (.ref a1)] [(.ref a178), (.ref b11)])) rfl (by rw [hml]; rfl) (Steps.refl _) (argsL := [(.ref a178)]) (rest := []) (lenOf pd_h63c63b4d rfl) rfl (by show 2 * 0 + _ ≤ _; exact Nat.le_of_eq rfl) (hb hby d3_57) (fun _ _ => ⟨rfl, e178, (by decide : 20 + 0 ≤ _), (by decide : 1356 + 0 ≤ _)⟩)
    dsimp only [Pt.U, Pt.locs, Pt.cells, Pt.slots] at X190 l190 y190 z190 st190 hQ190
    rw [l190, y190, z190] at X190
    obtain ⟨rfl, Nq190, Kp190, G190_0, G190_1, G190_2, G190_3, G190_4, G190_5, H190_0⟩ := hQ190
    have N190 := Fr.app N172 Nq190
    refine own_goT st190 ?_
    have le_190 : h178.size ≤ T190.heap.size := Kp190.1
    have sz191 : h0.size ≤ vb2_172 := by omega
    have K190 : Keep h0 T190.heap [] := Keep.trans K178 Kp190 (allS (Or.inr sz19) (allS (Or.inr sz191) all0))
    have Sf192 := Safe.keep Kp190 (allS Sf179 (allS Sf180 all0)) CH181.1 Sf179
    have Sf193 := Safe.keep Kp190 (allS Sf179 (allS Sf180 all0)) CH181.1 Sf180
    have CH194 := CHr.trans CH181 (CHr.keep Kp190 (allS Sf179 (allS Sf180 all0)) CH181.1)
    have fS195 := own_fit.add H172_1 fK5 (by simp only [List.length_append, List.length_nil, own_pl1, own_pl2, own_pl3, own_pl4, own_pl5]; omega)
    show ∃ t o, Steps p.tables e below (T190.setTop (mkF m 60 #[.val (.ref a1)] [(.ref b11)])) t ∧ _
    have F196 := (Old.keep F188 Kp190 (allS ge15 (allS H172_4 all0)))
    have zl197 : n0 ≤ T190.heap.size := by omega
    obtain ⟨cq198, kq198, q198a, q198b, q198c⟩ := isOf hZ rfl G190_0
    obtain ⟨_, _, ⟨T198, L198, k198, n198⟩, -, X198, ⟨Lc198, hQ198, l198, y198, z198⟩, st198⟩ := X190.virtualBack hx (y := (⟨"java/lang/StringBuilder", "toString", "()Ljava/lang/String;"⟩ : MethodName)) (z := (⟨"java/lang/StringBuilder", "toString", "()Ljava/lang/String;"⟩ : MethodName)) hown (mvT hZ w_153) (mvT hZ w_154) (notFace_of_selects (args := #[]) (mvT hZ w_156)) (mvT hZ w_156) (mvT hZ w_155) (by decide) (backOf (W := 0) (rmTs l Z a0 hw [] b11 vb2_172 kv2_172 cp2_172 (((((((((([] ++ own_p1) ++ own_dec qw) ++ own_p2) ++ own_dec qd) ++ own_p3) ++ own_dec qf) ++ own_p4) ++ own_dec qx) ++ own_p5)) ((cn2_172 + (1 : Int32))) zc T190.heap n0 zl197 G190_0 G190_1 G190_2 G190_3 G190_4 G190_5 F196 P6 hzc (fS195 : own_fit ((((((((([] ++ own_p1) ++ own_dec qw) ++ own_p2) ++ own_dec qd) ++ own_p3) ++ own_dec qf) ++ own_p4) ++ own_dec qx) ++ own_p5) (cn2_172 + (1 : Int32))) (H190_0 : own_cap ((((((((([] ++ own_p1) ++ own_dec qw) ++ own_p2) ++ own_dec qd) ++ own_p3) ++ own_dec qf) ++ own_p4) ++ own_dec qx) ++ own_p5) cp2_172)) hZ w_157 w_24 (by decide) (by decide)) q198a q198c (g := (mkF m 60 #[.val (.ref a1)] [(.ref b11)])) rfl (by rw [hml]; rfl) (Steps.refl _) (argsL := []) (rest := []) (lenOf pd__28_29Ljava_2flang_2fString_3b rfl) rfl (by show 2 * 0 + _ ≤ _; exact Nat.le_of_eq rfl) (hb hby d3_60) (fun _ _ => ⟨rfl, rfl, (by decide : 20 + 2 ≤ _), (by decide : 1356 + 146 ≤ _)⟩)
    dsimp only [Pt.U, Pt.locs, Pt.cells, Pt.slots] at X198 l198 y198 z198 st198 hQ198
    rw [l198, y198, z198] at X198
    obtain ⟨b_198, tb_198, kb_198, rfl, Nq198, Kp198, G198_0, G198_1, G198_2, G198_3, H198_0, H198_1⟩ := hQ198
    have N198 := Fr.app N190 Nq198
    refine own_goT st198 ?_
    have le_198 : T190.heap.size ≤ T198.heap.size := Kp198.1
    have K198 : Keep h0 T198.heap [] := Keep.trans K190 Kp198 all0
    have Sf199 := Safe.keep Kp198 all0 CH194.1 Sf192
    have Sf200 := Safe.keep Kp198 all0 CH194.1 Sf193
    have CH201 := CHr.trans CH194 (CHr.keep Kp198 all0 CH194.1)
    have lt_b_198 : b_198 < T198.heap.size := (G198_0).lt
    have lt_tb_198 : tb_198 < T198.heap.size := (G198_3).lt
    have Pz : Arv Z T198.heap tb_198 kb_198 .byte (cn2_172 + (1 : Int32)) (own_qc qw qd qf qx) (.int (0 : Int32)) := G198_3
    show ∃ t o, Steps p.tables e below (T198.setTop (mkF m 63 #[.val (.ref a1)] [(.ref b_198)])) t ∧ _
    obtain ⟨fs, hr, hrun, hended, hW⟩ := Jvm.Stand.leaveW X198 hS (by omega) (v := some (.ref b_198)) (fun h => by rw [Bd.returns] at h; cases h)
    have CHz : CHr Z own_EL s.vm s.heap T198.vm T198.heap := by rw [hh]; exact CHr.trans CH201 (CHv.at X198 hZ hEL CH201.1)
    refine ⟨_, _, ?_, hrun, hended, _, _, rfl, ?_, CHz, ⟨hW.1, hW.2.1, hW.2.2.1, hW.2.2.2.mono (by decide) (by decide)⟩⟩
    · jvm_step X198.here [X198.here.top, hx, (hb hby d3_63), X198.method', Bd.returns, Value.isRef, FieldType.isReference]
      first | (intro acts; rw [hr _ acts rfl rfl rfl]) | rw [hr _ _ rfl rfl rfl]
      exact Steps.refl _
    · show Q_rmQTs Z _ _ _ _ _ _ _ _ _ _ h0 n0 _ T198.heap _
      exact ⟨b_198, tb_198, kb_198, (cn2_172 + (1 : Int32)), rfl, N198, K198, G198_0, G198_1, G198_2, Pz, fS195, (by omega), (by omega)⟩
theorem ef_rmDig (m : MethodId) (x0 : Int64) : entryFrame m #[(.long x0)] 2 = mkF m 0 #[.val (.long x0), .second] [] := by first | (simp [entryFrame, mkF, argsToLocals, Value.category]; done) | rfl
theorem d35_0 : decode method_2_code 0 = .ok (.lload_n 0, 1) := by decide +kernel
theorem d35_1 : decode method_2_code 1 = .ok (.ldc2_w 7, 3) := by decide +kernel
theorem d35_4 : decode method_2_code 4 = .ok (.lrem, 1) := by decide +kernel
theorem d35_5 : decode method_2_code 5 = .ok (.ldc2_w 7, 3) := by decide +kernel
theorem d35_8 : decode method_2_code 8 = .ok (.ladd, 1) := by decide +kernel
theorem d35_9 : decode method_2_code 9 = .ok (.ldc2_w 7, 3) := by decide +kernel
theorem d35_12 : decode method_2_code 12 = .ok (.lrem, 1) := by decide +kernel
theorem d35_13 : decode method_2_code 13 = .ok (.l2i, 1) := by decide +kernel
theorem d35_14 : decode method_2_code 14 = .ok (.ireturn, 1) := by decide +kernel
theorem pn_com_example_libtardy_libtardy_QueueCountsToStringPinLaw : plainName "com/example/libtardy/libtardy/QueueCountsToStringPinLaw" = true := by first | (simp [plainName, overriddenIn]; done) | decide +kernel
def Q_rmDig (Z : State) (xl : Int64) (h0 : Heap) (n0 : Nat) (v : Option Value) (h : Heap) (L : List Loc) : Prop := ∃ (r1 : Int32), v = some (.int r1) ∧ Fr n0 L ∧ h = h0 ∧ (own_d9 r1)
set_option maxRecDepth 65536 in
set_option maxHeartbeats 40000000 in
theorem rmDig (l : Launch) (Z : State) (a0 : Array Value) (hw : ∀ d ∈ tables_1, d.before a0 Z = true) (ws : List Jvm.Cond) (xl : Int64) (h0 : Heap) (n0 : Nat) (Z0 : n0 ≤ h0.size) (OLD : Old Z n0 h0) :
    MetFree l (⟨"com/example/libtardy/libtardy/QueueCountsToStringPinLaw", "digit", "(J)I"⟩ : MethodName) (head1 (Jvm.Cond.code (⟨"com/example/libtardy/libtardy/QueueCountsToStringPinLaw", "digit", "(J)I"⟩ : MethodName) method_2_code 2 (some .int) :: ws) ({ frames := 0, cells := 0, slots := 0, locals := 0 } : Room)) (fun a U => a = #[(.long xl)] ∧ Z.Warmed39 U.vm ∧ U.heap = h0) (fun _ _ _ _ _ => True) (fun _ U o U' => ∃ v L, o = .returned v ∧ Q_rmDig Z xl h0 n0 v U'.heap L ∧ FrameEnd U o U' L ({ frames := 0, cells := 0, slots := 0, locals := 0 } : Room).cells ({ frames := 0, cells := 0, slots := 0, locals := 0 } : Room).slots) := by
  refine MetFree.of_bodySF (plainFor_of_name pn_com_example_libtardy_libtardy_QueueCountsToStringPinLaw) hisR ?_
  intro p e s m args below meth c s₁ Bd hml0 hP hK
  obtain ⟨rfl, hZ, hh⟩ := hP
  have hx := Bd.exec
  have hby := Bd.bytes
  have hml : c.maxLocals = 2 := hml0
  have hown : s.vm.findClass "com/example/libtardy/libtardy/QueueCountsToStringPinLaw" = some m.cls := findClass_of_methodNamed Bd.named
  have hnm := (name_of_methodNamed Bd.named Bd.method).1
  have X0 : Stand p l e ({ frames := 0, cells := 0, slots := 0, locals := 0 } : Room) s m #[(.long xl)] below meth c s₁ [] 0 0 := Stand.of_body Bd
  have e0 : s₁.heap = h0 := by rw [← hh, Bd.state]; rfl
  have N0 := Fr.nil n0
  have pre0 : ∀ t, Steps p.tables e below (s₁.setTop (mkF m 0 #[.val (.long xl), .second] [])) t → Steps p.tables e below (s₁.setTop (entryFrame m #[(.long xl)] 2)) t := fun t k => castTop (ef_rmDig m xl) k
  have w_204 := hw _ (List.mem_of_getElem? (i := 204) rfl)
  have oz := OLD.1
  refine own_go (B := s₁.setTop (mkF m 0 #[.val (.long xl), .second] [])) pre0 ?_
  show ∃ t o, Steps p.tables e below (s₁.setTop (mkF m 0 #[.val (.long xl), .second] [])) t ∧ _
  refine own_go (fun _ => XS.lloadN X0.here hx rfl (hb hby d35_0) rfl) ?_
  refine own_go (fun _ => X0.ldc2Long hx hown (mvT hZ w_204) (g := (mkF m 1 #[.val (.long xl), .second] [(.long xl)])) rfl (hb hby d35_1) _) ?_
  refine own_go (fun _ => Jvm.Free.XT.lrem X0.here hx rfl (hb hby d35_4) rfl (by decide)) ?_
  refine own_go (fun _ => X0.ldc2Long hx hown (mvT hZ w_204) (g := (mkF m 5 #[.val (.long xl), .second] [(.long (xl - (xl / (10 : Int64)) * (10 : Int64)))])) rfl (hb hby d35_5) _) ?_
  refine own_go (fun _ => XS.ladd X0.here hx rfl (hb hby d35_8) rfl) ?_
  refine own_go (fun _ => X0.ldc2Long hx hown (mvT hZ w_204) (g := (mkF m 9 #[.val (.long xl), .second] [(.long ((xl - (xl / (10 : Int64)) * (10 : Int64)) + (10 : Int64)))])) rfl (hb hby d35_9) _) ?_
  refine own_go (fun _ => Jvm.Free.XT.lrem X0.here hx rfl (hb hby d35_12) rfl (by decide)) ?_
  refine own_go (fun _ => XS.l2i X0.here hx rfl (hb hby d35_13) rfl) ?_
  show ∃ t o, Steps p.tables e below (s₁.setTop (mkF m 14 #[.val (.long xl), .second] [(.int ((((xl - (xl / (10 : Int64)) * (10 : Int64)) + (10 : Int64)) - (((xl - (xl / (10 : Int64)) * (10 : Int64)) + (10 : Int64)) / (10 : Int64)) * (10 : Int64)).toInt32))])) t ∧ _
  obtain ⟨fs, hr, hrun, hended, hW, hsame⟩ := X0.leave (v := some (.int ((((xl - (xl / (10 : Int64)) * (10 : Int64)) + (10 : Int64)) - (((xl - (xl / (10 : Int64)) * (10 : Int64)) + (10 : Int64)) / (10 : Int64)) * (10 : Int64)).toInt32))) (fun h => by rw [Bd.returns] at h; cases h)
  refine ⟨_, _, ?_, hrun, hended, _, _, rfl, ?_, ⟨_, rfl⟩, hW, hsame.mono (by decide) (by decide)⟩
  · exact retI X0 hx Bd.returns (hb hby d35_14) hr
  · show Q_rmDig Z _ h0 n0 _ s₁.heap _
    rw [e0]
    exact ⟨((((xl - (xl / (10 : Int64)) * (10 : Int64)) + (10 : Int64)) - (((xl - (xl / (10 : Int64)) * (10 : Int64)) + (10 : Int64)) / (10 : Int64)) * (10 : Int64)).toInt32), rfl, N0, rfl, (own_dgt xl)⟩
theorem ef_rmCh (m : MethodId) (x0 : Int32) : entryFrame m #[(.int x0)] 1 = mkF m 0 #[.val (.int x0)] [] := by first | (simp [entryFrame, mkF, argsToLocals, Value.category]; done) | rfl
theorem d36_0 : decode method_3_code 0 = .ok (.bipush 48, 2) := by decide +kernel
theorem d36_2 : decode method_3_code 2 = .ok (.iload_n 0, 1) := by decide +kernel
theorem d36_3 : decode method_3_code 3 = .ok (.iadd, 1) := by decide +kernel
theorem d36_4 : decode method_3_code 4 = .ok (.i2c, 1) := by decide +kernel
theorem d36_5 : decode method_3_code 5 = .ok (.ireturn, 1) := by decide +kernel
def Q_rmCh (Z : State) (xk : Int32) (h0 : Heap) (n0 : Nat) (v : Option Value) (h : Heap) (L : List Loc) : Prop := v = some (.int ((48 : Int32) + xk)) ∧ Fr n0 L ∧ h = h0
set_option maxRecDepth 65536 in
set_option maxHeartbeats 40000000 in
theorem rmCh (l : Launch) (Z : State) (a0 : Array Value) (hw : ∀ d ∈ tables_1, d.before a0 Z = true) (ws : List Jvm.Cond) (xk : Int32) (h0 : Heap) (n0 : Nat) (Z0 : n0 ≤ h0.size) (OLD : Old Z n0 h0) (hk : own_d9 xk) :
    MetFree l (⟨"com/example/libtardy/libtardy/QueueCountsToStringPinLaw", "ch", "(I)C"⟩ : MethodName) (head1 (Jvm.Cond.code (⟨"com/example/libtardy/libtardy/QueueCountsToStringPinLaw", "ch", "(I)C"⟩ : MethodName) method_3_code 1 (some .char) :: ws) ({ frames := 0, cells := 0, slots := 0, locals := 0 } : Room)) (fun a U => a = #[(.int xk)] ∧ Z.Warmed39 U.vm ∧ U.heap = h0) (fun _ _ _ _ _ => True) (fun _ U o U' => ∃ v L, o = .returned v ∧ Q_rmCh Z xk h0 n0 v U'.heap L ∧ FrameEnd U o U' L ({ frames := 0, cells := 0, slots := 0, locals := 0 } : Room).cells ({ frames := 0, cells := 0, slots := 0, locals := 0 } : Room).slots) := by
  refine MetFree.of_bodySF (plainFor_of_name pn_com_example_libtardy_libtardy_QueueCountsToStringPinLaw) hisR ?_
  intro p e s m args below meth c s₁ Bd hml0 hP hK
  obtain ⟨rfl, hZ, hh⟩ := hP
  have hx := Bd.exec
  have hby := Bd.bytes
  have hml : c.maxLocals = 1 := hml0
  have hown : s.vm.findClass "com/example/libtardy/libtardy/QueueCountsToStringPinLaw" = some m.cls := findClass_of_methodNamed Bd.named
  have hnm := (name_of_methodNamed Bd.named Bd.method).1
  have X0 : Stand p l e ({ frames := 0, cells := 0, slots := 0, locals := 0 } : Room) s m #[(.int xk)] below meth c s₁ [] 0 0 := Stand.of_body Bd
  have e0 : s₁.heap = h0 := by rw [← hh, Bd.state]; rfl
  have N0 := Fr.nil n0
  have pre0 : ∀ t, Steps p.tables e below (s₁.setTop (mkF m 0 #[.val (.int xk)] [])) t → Steps p.tables e below (s₁.setTop (entryFrame m #[(.int xk)] 1)) t := fun t k => castTop (ef_rmCh m xk) k
  have oz := OLD.1
  refine own_go (B := s₁.setTop (mkF m 0 #[.val (.int xk)] [])) pre0 ?_
  show ∃ t o, Steps p.tables e below (s₁.setTop (mkF m 0 #[.val (.int xk)] [])) t ∧ _
  refine own_go (fun _ => XS.bipush X0.here hx rfl (hb hby d36_0)) ?_
  refine own_go (fun _ => XS.iloadN X0.here hx rfl (hb hby d36_2) rfl) ?_
  refine own_go (fun _ => XS.iadd X0.here hx rfl (hb hby d36_3) rfl) ?_
  refine own_go (fun _ => XS.i2c X0.here hx rfl (hb hby d36_4) rfl) ?_
  show ∃ t o, Steps p.tables e below (s₁.setTop (mkF m 5 #[.val (.int xk)] [(.int (((48 : Int32) + xk).toUInt32.toUInt16.toUInt32.toInt32))])) t ∧ _
  obtain ⟨fs, hr, hrun, hended, hW, hsame⟩ := X0.leave (v := some (.int (nar .char (((48 : Int32) + xk).toUInt32.toUInt16.toUInt32.toInt32)))) (fun h => by rw [Bd.returns] at h; cases h)
  refine ⟨_, _, ?_, hrun, hended, _, _, rfl, ?_, ⟨_, rfl⟩, hW, hsame.mono (by decide) (by decide)⟩
  · exact retN X0 hx (t := .char) Bd.returns (by simp) (hb hby d36_5) hr
  · show Q_rmCh Z _ h0 n0 _ s₁.heap _
    rw [e0]
    exact ⟨(congrArg (fun z => some (Value.int z)) (own_chn hk)), N0, rfl⟩
theorem ef_rm0 (m : MethodId) (x0 : Int64) (x1 : Int64) (x2 : Int64) (x3 : Int64) (x4 : Int64) (x5 : Int32) : entryFrame m #[(.long x0), (.long x1), (.long x2), (.long x3), (.long x4), (.int x5)] maxLocals = mkF m 0 #[.val (.long x0), .second, .val (.long x1), .second, .val (.long x2), .second, .val (.long x3), .second, .val (.long x4), .second, .val (.int x5), .unset, .unset, .unset, .unset, .unset, .unset, .unset, .unset, .unset, .unset, .unset, .unset, .unset, .unset, .unset, .unset, .unset, .unset, .unset] [] := by first | (simp [entryFrame, mkF, argsToLocals, Value.category, maxLocals]; done) | rfl
theorem pd__28JJJJ_29V : parseMethodDescriptor "(JJJJ)V" = some ⟨[.long, .long, .long, .long], none⟩ := by decide +kernel
theorem pd__28Ljava_2flang_2fObject_3b_29Z : parseMethodDescriptor "(Ljava/lang/Object;)Z" = some ⟨[(.object "java/lang/Object")], some .boolean⟩ := by decide +kernel
theorem pd__28I_29C : parseMethodDescriptor "(I)C" = some ⟨[.int], some .char⟩ := by decide +kernel
theorem pd__28_5bC_29V : parseMethodDescriptor "([C)V" = some ⟨[(.array .char)], none⟩ := by decide +kernel
def Q_rm0 (Z : State) (xw : Int64) (xd : Int64) (xf : Int64) (xx : Int64) (xv : Int64) (xs : Int32) (zc : Int32) (gd : Nat) (ge : Nat) (kd : ClassId) (ke : ClassId) (h0 : Heap) (n0 : Nat) (v : Option Value) (h : Heap) (L : List Loc) : Prop := v = some (.int (1 : Int32)) ∧ Fr n0 L ∧ Keep h0 h []
set_option maxRecDepth 65536 in
set_option maxHeartbeats 40000000 in
theorem rm0 (l : Launch) (Z : State) (a0 : Array Value) (hw : ∀ d ∈ tables_1, d.before a0 Z = true) (ws : List Jvm.Cond) (xw : Int64) (xd : Int64) (xf : Int64) (xx : Int64) (xv : Int64) (xs : Int32) (zc : Int32) (gd : Nat) (ge : Nat) (kd : ClassId) (ke : ClassId) (h0 : Heap) (n0 : Nat) (Z0 : n0 ≤ h0.size) (OLD : Old Z n0 h0) (P1 : Sta Z Z.heap "java/lang/String" "COMPACT_STRINGS" "Z" (.int zc)) (P2 : Sta Z Z.heap "java/lang/Integer" "DigitOnes" "[B" (.ref gd)) (P3 : Sta Z Z.heap "java/lang/Integer" "DigitTens" "[B" (.ref ge)) (P4 : Arv Z Z.heap gd kd .byte (100 : Int32) own_ones (.int (0 : Int32))) (P5 : Arv Z Z.heap ge ke .byte (100 : Int32) own_tens (.int (0 : Int32))) (hzc : ¬ (zc = (0 : Int32))) (hEL : EW Z a0 own_EL) :
    MetFree l x (head1 (Jvm.Cond.code x code maxLocals ret :: ws) room_1) (fun a U => a = #[(.long xw), (.long xd), (.long xf), (.long xx), (.long xv), (.int xs)] ∧ Z.Warmed39 U.vm ∧ U.heap = h0 ∧ CHv Z own_EL U.vm h0) (fun _ _ _ _ _ => True) (fun _ U o U' => ∃ v L, o = .returned v ∧ Q_rm0 Z xw xd xf xx xv xs zc gd ge kd ke h0 n0 v U'.heap L ∧ CHr Z own_EL U.vm U.heap U'.vm U'.heap ∧ ReturnedEndW U o U' L room_1.cells room_1.slots) := by
  refine MetFree.of_bodySF (plainFor_of_name pn_com_example_libtardy_libtardy_QueueCountsToStringPinLaw) hisR ?_
  intro p e s m args below meth c s₁ Bd hml0 hP hK
  obtain ⟨rfl, hZ, hh, hCH⟩ := hP
  have hx := Bd.exec
  have hby := Bd.bytes
  have hml : c.maxLocals = 30 := hml0
  have hown : s.vm.findClass "com/example/libtardy/libtardy/QueueCountsToStringPinLaw" = some m.cls := findClass_of_methodNamed Bd.named
  have hnm := (name_of_methodNamed Bd.named Bd.method).1
  have X0 : Stand p l e room_1 (s.setVm s.vm) m #[(.long xw), (.long xd), (.long xf), (.long xx), (.long xv), (.int xs)] below meth c s₁ [] 0 0 := Stand.of_body Bd
  have e0 : s₁.heap = h0 := by rw [← hh, Bd.state]; rfl
  have N0 := Fr.nil n0
  have pre0 : ∀ t, Steps p.tables e below (s₁.setTop (mkF m 0 #[.val (.long xw), .second, .val (.long xd), .second, .val (.long xf), .second, .val (.long xx), .second, .val (.long xv), .second, .val (.int xs), .unset, .unset, .unset, .unset, .unset, .unset, .unset, .unset, .unset, .unset, .unset, .unset, .unset, .unset, .unset, .unset, .unset, .unset, .unset] [])) t → Steps p.tables e below (s₁.setTop (entryFrame m #[(.long xw), (.long xd), (.long xf), (.long xx), (.long xv), (.int xs)] maxLocals)) t := fun t k => castTop (ef_rm0 m xw xd xf xx xv xs) k
  have hZ : Z.Warmed39 (s.setVm s.vm).vm := hZ
  have hown : (s.setVm s.vm).vm.findClass "com/example/libtardy/libtardy/QueueCountsToStringPinLaw" = some m.cls := hown
  have hS : s.Since s.vm 0 := (State.WarmedH.refl s).since 0
  have CH0 : CHr Z own_EL s.vm h0 s.vm h0 := CHr.refl hCH
  have w_0 := hw _ (List.mem_of_getElem? (i := 0) rfl)
  have w_1 := hw _ (List.mem_of_getElem? (i := 1) rfl)
  have w_10 := hw _ (List.mem_of_getElem? (i := 10) rfl)
  have w_12 := hw _ (List.mem_of_getElem? (i := 12) rfl)
  have w_14 := hw _ (List.mem_of_getElem? (i := 14) rfl)
  have w_16 := hw _ (List.mem_of_getElem? (i := 16) rfl)
  have w_17 := hw _ (List.mem_of_getElem? (i := 17) rfl)
  have w_18 := hw _ (List.mem_of_getElem? (i := 18) rfl)
  have w_19 := hw _ (List.mem_of_getElem? (i := 19) rfl)
  have w_190 := hw _ (List.mem_of_getElem? (i := 190) rfl)
  have w_191 := hw _ (List.mem_of_getElem? (i := 191) rfl)
  have w_192 := hw _ (List.mem_of_getElem? (i := 192) rfl)
  have w_193 := hw _ (List.mem_of_getElem? (i := 193) rfl)
  have w_194 := hw _ (List.mem_of_getElem? (i := 194) rfl)
  have w_2 := hw _ (List.mem_of_getElem? (i := 2) rfl)
  have w_20 := hw _ (List.mem_of_getElem? (i := 20) rfl)
  have w_200 := hw _ (List.mem_of_getElem? (i := 200) rfl)
  have w_201 := hw _ (List.mem_of_getElem? (i := 201) rfl)
  have w_202 := hw _ (List.mem_of_getElem? (i := 202) rfl)
  have w_203 := hw _ (List.mem_of_getElem? (i := 203) rfl)
  have w_206 := hw _ (List.mem_of_getElem? (i := 206) rfl)
  have w_207 := hw _ (List.mem_of_getElem? (i := 207) rfl)
  have w_208 := hw _ (List.mem_of_getElem? (i := 208) rfl)
  have w_21 := hw _ (List.mem_of_getElem? (i := 21) rfl)
  have w_3 := hw _ (List.mem_of_getElem? (i := 3) rfl)
  have w_36 := hw _ (List.mem_of_getElem? (i := 36) rfl)
  have w_4 := hw _ (List.mem_of_getElem? (i := 4) rfl)
  have w_43 := hw _ (List.mem_of_getElem? (i := 43) rfl)
  have w_5 := hw _ (List.mem_of_getElem? (i := 5) rfl)
  have oz := OLD.1
  have lt_gd : gd < Z.heap.size := P4.lt
  have lt_ge : ge < Z.heap.size := P5.lt
  refine own_go (B := s₁.setTop (mkF m 0 #[.val (.long xw), .second, .val (.long xd), .second, .val (.long xf), .second, .val (.long xx), .second, .val (.long xv), .second, .val (.int xs), .unset, .unset, .unset, .unset, .unset, .unset, .unset, .unset, .unset, .unset, .unset, .unset, .unset, .unset, .unset, .unset, .unset, .unset, .unset] [])) pre0 ?_
  show ∃ t o, Steps p.tables e below (s₁.setTop (mkF m 0 #[.val (.long xw), .second, .val (.long xd), .second, .val (.long xf), .second, .val (.long xx), .second, .val (.long xv), .second, .val (.int xs), .unset, .unset, .unset, .unset, .unset, .unset, .unset, .unset, .unset, .unset, .unset, .unset, .unset, .unset, .unset, .unset, .unset, .unset, .unset] [])) t ∧ _
  refine own_go (fun _ => XS.iload X0.here hx rfl (hb hby at_0) rfl) ?_
  refine own_go (fun _ => XS.iconst X0.here hx rfl (hb hby at_2)) ?_
  refine own_go (fun _ => XS.iand X0.here hx rfl (hb hby at_3) rfl) ?_
  show ∃ t o, Steps p.tables e below (s₁.setTop (mkF m 4 #[.val (.long xw), .second, .val (.long xd), .second, .val (.long xf), .second, .val (.long xx), .second, .val (.long xv), .second, .val (.int xs), .unset, .unset, .unset, .unset, .unset, .unset, .unset, .unset, .unset, .unset, .unset, .unset, .unset, .unset, .unset, .unset, .unset, .unset, .unset] [(.int (xs &&& (1 : Int32)))])) t ∧ _
  have seg6 : ∀ t, Steps p.tables e below (s₁.setTop (mkF m 13 #[.val (.long xw), .second, .val (.long xd), .second, .val (.long xf), .second, .val (.long xx), .second, .val (.long xv), .second, .val (.int xs), .unset, .unset, .unset, .unset, .unset, .unset, .unset, .unset, .unset, .unset, .unset, .unset, .unset, .unset, .unset, .unset, .unset, .unset, .unset] [(.long (if (xs &&& (1 : Int32)) = (0 : Int32) then xw else xv))])) t → Steps p.tables e below (s₁.setTop (mkF m 4 #[.val (.long xw), .second, .val (.long xd), .second, .val (.long xf), .second, .val (.long xx), .second, .val (.long xv), .second, .val (.int xs), .unset, .unset, .unset, .unset, .unset, .unset, .unset, .unset, .unset, .unset, .unset, .unset, .unset, .unset, .unset, .unset, .unset, .unset, .unset] [(.int (xs &&& (1 : Int32)))])) t := by
    intro t k
    show Steps p.tables e below (s₁.setTop (mkF m 4 #[.val (.long xw), .second, .val (.long xd), .second, .val (.long xf), .second, .val (.long xx), .second, .val (.long xv), .second, .val (.int xs), .unset, .unset, .unset, .unset, .unset, .unset, .unset, .unset, .unset, .unset, .unset, .unset, .unset, .unset, .unset, .unset, .unset, .unset, .unset] [(.int (xs &&& (1 : Int32)))])) _
    by_cases hc7 : (xs &&& (1 : Int32)) = (0 : Int32)
    · refine XS.ifYes X0.here hx rfl (pc0 := 4) (pc' := 12) rfl (hb hby at_4) rfl ((if0 _ _).trans (teq hc7).1) (by decide) (by decide) ?_
      show Steps p.tables e below (s₁.setTop (mkF m 12 #[.val (.long xw), .second, .val (.long xd), .second, .val (.long xf), .second, .val (.long xx), .second, .val (.long xv), .second, .val (.int xs), .unset, .unset, .unset, .unset, .unset, .unset, .unset, .unset, .unset, .unset, .unset, .unset, .unset, .unset, .unset, .unset, .unset, .unset, .unset] [])) _
      refine XS.lloadN X0.here hx rfl (hb hby at_12) rfl ?_
      simp only [if_pos hc7] at k
      exact k
    · refine XS.ifNo X0.here hx rfl (hb hby at_4) rfl ((if0 _ _).trans (feq hc7).1) ?_
      show Steps p.tables e below (s₁.setTop (mkF m 7 #[.val (.long xw), .second, .val (.long xd), .second, .val (.long xf), .second, .val (.long xx), .second, .val (.long xv), .second, .val (.int xs), .unset, .unset, .unset, .unset, .unset, .unset, .unset, .unset, .unset, .unset, .unset, .unset, .unset, .unset, .unset, .unset, .unset, .unset, .unset] [])) _
      refine XS.lload X0.here hx rfl (hb hby at_7) rfl ?_
      show Steps p.tables e below (s₁.setTop (mkF m 9 #[.val (.long xw), .second, .val (.long xd), .second, .val (.long xf), .second, .val (.long xx), .second, .val (.long xv), .second, .val (.int xs), .unset, .unset, .unset, .unset, .unset, .unset, .unset, .unset, .unset, .unset, .unset, .unset, .unset, .unset, .unset, .unset, .unset, .unset, .unset] [(.long xv)])) _
      refine XS.goto X0.here hx rfl (pc0 := 9) (pc' := 13) rfl (hb hby at_9) (by decide) (by decide) ?_
      simp only [if_neg hc7] at k
      exact k
  refine own_go seg6 ?_
  refine own_go (fun _ => XS.lstore X0.here hx rfl (hb hby at_13) rfl (l' := #[.val (.long xw), .second, .val (.long xd), .second, .val (.long xf), .second, .val (.long xx), .second, .val (.long xv), .second, .val (.int xs), .val (.long (if (xs &&& (1 : Int32)) = (0 : Int32) then xw else xv)), .second, .unset, .unset, .unset, .unset, .unset, .unset, .unset, .unset, .unset, .unset, .unset, .unset, .unset, .unset, .unset, .unset, .unset]) rfl) ?_
  show ∃ t o, Steps p.tables e below (s₁.setTop (mkF m 15 #[.val (.long xw), .second, .val (.long xd), .second, .val (.long xf), .second, .val (.long xx), .second, .val (.long xv), .second, .val (.int xs), .val (.long (if (xs &&& (1 : Int32)) = (0 : Int32) then xw else xv)), .second, .unset, .unset, .unset, .unset, .unset, .unset, .unset, .unset, .unset, .unset, .unset, .unset, .unset, .unset, .unset, .unset, .unset] [])) t ∧ _
  obtain ⟨bw, e_bw⟩ : ∃ z : Int64, z = (if (xs &&& (1 : Int32)) = (0 : Int32) then xw else xv) := ⟨_, rfl⟩
  rw [← e_bw]
  show ∃ t o, Steps p.tables e below (s₁.setTop (mkF m 15 #[.val (.long xw), .second, .val (.long xd), .second, .val (.long xf), .second, .val (.long xx), .second, .val (.long xv), .second, .val (.int xs), .val (.long bw), .second, .unset, .unset, .unset, .unset, .unset, .unset, .unset, .unset, .unset, .unset, .unset, .unset, .unset, .unset, .unset, .unset, .unset] [])) t ∧ _
  refine own_go (fun _ => XS.iload X0.here hx rfl (hb hby at_15) rfl) ?_
  refine own_go (fun _ => XS.iconst X0.here hx rfl (hb hby at_17)) ?_
  refine own_go (fun _ => XS.iand X0.here hx rfl (hb hby at_18) rfl) ?_
  show ∃ t o, Steps p.tables e below (s₁.setTop (mkF m 19 #[.val (.long xw), .second, .val (.long xd), .second, .val (.long xf), .second, .val (.long xx), .second, .val (.long xv), .second, .val (.int xs), .val (.long bw), .second, .unset, .unset, .unset, .unset, .unset, .unset, .unset, .unset, .unset, .unset, .unset, .unset, .unset, .unset, .unset, .unset, .unset] [(.int (xs &&& (2 : Int32)))])) t ∧ _
  have seg8 : ∀ t, Steps p.tables e below (s₁.setTop (mkF m 28 #[.val (.long xw), .second, .val (.long xd), .second, .val (.long xf), .second, .val (.long xx), .second, .val (.long xv), .second, .val (.int xs), .val (.long bw), .second, .unset, .unset, .unset, .unset, .unset, .unset, .unset, .unset, .unset, .unset, .unset, .unset, .unset, .unset, .unset, .unset, .unset] [(.long (if (xs &&& (2 : Int32)) = (0 : Int32) then xd else xv))])) t → Steps p.tables e below (s₁.setTop (mkF m 19 #[.val (.long xw), .second, .val (.long xd), .second, .val (.long xf), .second, .val (.long xx), .second, .val (.long xv), .second, .val (.int xs), .val (.long bw), .second, .unset, .unset, .unset, .unset, .unset, .unset, .unset, .unset, .unset, .unset, .unset, .unset, .unset, .unset, .unset, .unset, .unset] [(.int (xs &&& (2 : Int32)))])) t := by
    intro t k
    show Steps p.tables e below (s₁.setTop (mkF m 19 #[.val (.long xw), .second, .val (.long xd), .second, .val (.long xf), .second, .val (.long xx), .second, .val (.long xv), .second, .val (.int xs), .val (.long bw), .second, .unset, .unset, .unset, .unset, .unset, .unset, .unset, .unset, .unset, .unset, .unset, .unset, .unset, .unset, .unset, .unset, .unset] [(.int (xs &&& (2 : Int32)))])) _
    by_cases hc9 : (xs &&& (2 : Int32)) = (0 : Int32)
    · refine XS.ifYes X0.here hx rfl (pc0 := 19) (pc' := 27) rfl (hb hby at_19) rfl ((if0 _ _).trans (teq hc9).1) (by decide) (by decide) ?_
      show Steps p.tables e below (s₁.setTop (mkF m 27 #[.val (.long xw), .second, .val (.long xd), .second, .val (.long xf), .second, .val (.long xx), .second, .val (.long xv), .second, .val (.int xs), .val (.long bw), .second, .unset, .unset, .unset, .unset, .unset, .unset, .unset, .unset, .unset, .unset, .unset, .unset, .unset, .unset, .unset, .unset, .unset] [])) _
      refine XS.lloadN X0.here hx rfl (hb hby at_27) rfl ?_
      simp only [if_pos hc9] at k
      exact k
    · refine XS.ifNo X0.here hx rfl (hb hby at_19) rfl ((if0 _ _).trans (feq hc9).1) ?_
      show Steps p.tables e below (s₁.setTop (mkF m 22 #[.val (.long xw), .second, .val (.long xd), .second, .val (.long xf), .second, .val (.long xx), .second, .val (.long xv), .second, .val (.int xs), .val (.long bw), .second, .unset, .unset, .unset, .unset, .unset, .unset, .unset, .unset, .unset, .unset, .unset, .unset, .unset, .unset, .unset, .unset, .unset] [])) _
      refine XS.lload X0.here hx rfl (hb hby at_22) rfl ?_
      show Steps p.tables e below (s₁.setTop (mkF m 24 #[.val (.long xw), .second, .val (.long xd), .second, .val (.long xf), .second, .val (.long xx), .second, .val (.long xv), .second, .val (.int xs), .val (.long bw), .second, .unset, .unset, .unset, .unset, .unset, .unset, .unset, .unset, .unset, .unset, .unset, .unset, .unset, .unset, .unset, .unset, .unset] [(.long xv)])) _
      refine XS.goto X0.here hx rfl (pc0 := 24) (pc' := 28) rfl (hb hby at_24) (by decide) (by decide) ?_
      simp only [if_neg hc9] at k
      exact k
  refine own_go seg8 ?_
  refine own_go (fun _ => XS.lstore X0.here hx rfl (hb hby at_28) rfl (l' := #[.val (.long xw), .second, .val (.long xd), .second, .val (.long xf), .second, .val (.long xx), .second, .val (.long xv), .second, .val (.int xs), .val (.long bw), .second, .val (.long (if (xs &&& (2 : Int32)) = (0 : Int32) then xd else xv)), .second, .unset, .unset, .unset, .unset, .unset, .unset, .unset, .unset, .unset, .unset, .unset, .unset, .unset, .unset, .unset]) rfl) ?_
  show ∃ t o, Steps p.tables e below (s₁.setTop (mkF m 30 #[.val (.long xw), .second, .val (.long xd), .second, .val (.long xf), .second, .val (.long xx), .second, .val (.long xv), .second, .val (.int xs), .val (.long bw), .second, .val (.long (if (xs &&& (2 : Int32)) = (0 : Int32) then xd else xv)), .second, .unset, .unset, .unset, .unset, .unset, .unset, .unset, .unset, .unset, .unset, .unset, .unset, .unset, .unset, .unset] [])) t ∧ _
  obtain ⟨bd, e_bd⟩ : ∃ z : Int64, z = (if (xs &&& (2 : Int32)) = (0 : Int32) then xd else xv) := ⟨_, rfl⟩
  rw [← e_bd]
  show ∃ t o, Steps p.tables e below (s₁.setTop (mkF m 30 #[.val (.long xw), .second, .val (.long xd), .second, .val (.long xf), .second, .val (.long xx), .second, .val (.long xv), .second, .val (.int xs), .val (.long bw), .second, .val (.long bd), .second, .unset, .unset, .unset, .unset, .unset, .unset, .unset, .unset, .unset, .unset, .unset, .unset, .unset, .unset, .unset] [])) t ∧ _
  refine own_go (fun _ => XS.iload X0.here hx rfl (hb hby at_30) rfl) ?_
  refine own_go (fun _ => XS.iconst X0.here hx rfl (hb hby at_32)) ?_
  refine own_go (fun _ => XS.iand X0.here hx rfl (hb hby at_33) rfl) ?_
  show ∃ t o, Steps p.tables e below (s₁.setTop (mkF m 34 #[.val (.long xw), .second, .val (.long xd), .second, .val (.long xf), .second, .val (.long xx), .second, .val (.long xv), .second, .val (.int xs), .val (.long bw), .second, .val (.long bd), .second, .unset, .unset, .unset, .unset, .unset, .unset, .unset, .unset, .unset, .unset, .unset, .unset, .unset, .unset, .unset] [(.int (xs &&& (4 : Int32)))])) t ∧ _
  have seg10 : ∀ t, Steps p.tables e below (s₁.setTop (mkF m 44 #[.val (.long xw), .second, .val (.long xd), .second, .val (.long xf), .second, .val (.long xx), .second, .val (.long xv), .second, .val (.int xs), .val (.long bw), .second, .val (.long bd), .second, .unset, .unset, .unset, .unset, .unset, .unset, .unset, .unset, .unset, .unset, .unset, .unset, .unset, .unset, .unset] [(.long (if (xs &&& (4 : Int32)) = (0 : Int32) then xf else xv))])) t → Steps p.tables e below (s₁.setTop (mkF m 34 #[.val (.long xw), .second, .val (.long xd), .second, .val (.long xf), .second, .val (.long xx), .second, .val (.long xv), .second, .val (.int xs), .val (.long bw), .second, .val (.long bd), .second, .unset, .unset, .unset, .unset, .unset, .unset, .unset, .unset, .unset, .unset, .unset, .unset, .unset, .unset, .unset] [(.int (xs &&& (4 : Int32)))])) t := by
    intro t k
    show Steps p.tables e below (s₁.setTop (mkF m 34 #[.val (.long xw), .second, .val (.long xd), .second, .val (.long xf), .second, .val (.long xx), .second, .val (.long xv), .second, .val (.int xs), .val (.long bw), .second, .val (.long bd), .second, .unset, .unset, .unset, .unset, .unset, .unset, .unset, .unset, .unset, .unset, .unset, .unset, .unset, .unset, .unset] [(.int (xs &&& (4 : Int32)))])) _
    by_cases hc11 : (xs &&& (4 : Int32)) = (0 : Int32)
    · refine XS.ifYes X0.here hx rfl (pc0 := 34) (pc' := 42) rfl (hb hby at_34) rfl ((if0 _ _).trans (teq hc11).1) (by decide) (by decide) ?_
      show Steps p.tables e below (s₁.setTop (mkF m 42 #[.val (.long xw), .second, .val (.long xd), .second, .val (.long xf), .second, .val (.long xx), .second, .val (.long xv), .second, .val (.int xs), .val (.long bw), .second, .val (.long bd), .second, .unset, .unset, .unset, .unset, .unset, .unset, .unset, .unset, .unset, .unset, .unset, .unset, .unset, .unset, .unset] [])) _
      refine XS.lload X0.here hx rfl (hb hby at_42) rfl ?_
      simp only [if_pos hc11] at k
      exact k
    · refine XS.ifNo X0.here hx rfl (hb hby at_34) rfl ((if0 _ _).trans (feq hc11).1) ?_
      show Steps p.tables e below (s₁.setTop (mkF m 37 #[.val (.long xw), .second, .val (.long xd), .second, .val (.long xf), .second, .val (.long xx), .second, .val (.long xv), .second, .val (.int xs), .val (.long bw), .second, .val (.long bd), .second, .unset, .unset, .unset, .unset, .unset, .unset, .unset, .unset, .unset, .unset, .unset, .unset, .unset, .unset, .unset] [])) _
      refine XS.lload X0.here hx rfl (hb hby at_37) rfl ?_
      show Steps p.tables e below (s₁.setTop (mkF m 39 #[.val (.long xw), .second, .val (.long xd), .second, .val (.long xf), .second, .val (.long xx), .second, .val (.long xv), .second, .val (.int xs), .val (.long bw), .second, .val (.long bd), .second, .unset, .unset, .unset, .unset, .unset, .unset, .unset, .unset, .unset, .unset, .unset, .unset, .unset, .unset, .unset] [(.long xv)])) _
      refine XS.goto X0.here hx rfl (pc0 := 39) (pc' := 44) rfl (hb hby at_39) (by decide) (by decide) ?_
      simp only [if_neg hc11] at k
      exact k
  refine own_go seg10 ?_
  refine own_go (fun _ => XS.lstore X0.here hx rfl (hb hby at_44) rfl (l' := #[.val (.long xw), .second, .val (.long xd), .second, .val (.long xf), .second, .val (.long xx), .second, .val (.long xv), .second, .val (.int xs), .val (.long bw), .second, .val (.long bd), .second, .val (.long (if (xs &&& (4 : Int32)) = (0 : Int32) then xf else xv)), .second, .unset, .unset, .unset, .unset, .unset, .unset, .unset, .unset, .unset, .unset, .unset, .unset, .unset]) rfl) ?_
  show ∃ t o, Steps p.tables e below (s₁.setTop (mkF m 46 #[.val (.long xw), .second, .val (.long xd), .second, .val (.long xf), .second, .val (.long xx), .second, .val (.long xv), .second, .val (.int xs), .val (.long bw), .second, .val (.long bd), .second, .val (.long (if (xs &&& (4 : Int32)) = (0 : Int32) then xf else xv)), .second, .unset, .unset, .unset, .unset, .unset, .unset, .unset, .unset, .unset, .unset, .unset, .unset, .unset] [])) t ∧ _
  obtain ⟨bf, e_bf⟩ : ∃ z : Int64, z = (if (xs &&& (4 : Int32)) = (0 : Int32) then xf else xv) := ⟨_, rfl⟩
  rw [← e_bf]
  show ∃ t o, Steps p.tables e below (s₁.setTop (mkF m 46 #[.val (.long xw), .second, .val (.long xd), .second, .val (.long xf), .second, .val (.long xx), .second, .val (.long xv), .second, .val (.int xs), .val (.long bw), .second, .val (.long bd), .second, .val (.long bf), .second, .unset, .unset, .unset, .unset, .unset, .unset, .unset, .unset, .unset, .unset, .unset, .unset, .unset] [])) t ∧ _
  refine own_go (fun _ => XS.iload X0.here hx rfl (hb hby at_46) rfl) ?_
  refine own_go (fun _ => XS.bipush X0.here hx rfl (hb hby at_48)) ?_
  refine own_go (fun _ => XS.iand X0.here hx rfl (hb hby at_50) rfl) ?_
  show ∃ t o, Steps p.tables e below (s₁.setTop (mkF m 51 #[.val (.long xw), .second, .val (.long xd), .second, .val (.long xf), .second, .val (.long xx), .second, .val (.long xv), .second, .val (.int xs), .val (.long bw), .second, .val (.long bd), .second, .val (.long bf), .second, .unset, .unset, .unset, .unset, .unset, .unset, .unset, .unset, .unset, .unset, .unset, .unset, .unset] [(.int (xs &&& (8 : Int32)))])) t ∧ _
  have seg12 : ∀ t, Steps p.tables e below (s₁.setTop (mkF m 61 #[.val (.long xw), .second, .val (.long xd), .second, .val (.long xf), .second, .val (.long xx), .second, .val (.long xv), .second, .val (.int xs), .val (.long bw), .second, .val (.long bd), .second, .val (.long bf), .second, .unset, .unset, .unset, .unset, .unset, .unset, .unset, .unset, .unset, .unset, .unset, .unset, .unset] [(.long (if (xs &&& (8 : Int32)) = (0 : Int32) then xx else xv))])) t → Steps p.tables e below (s₁.setTop (mkF m 51 #[.val (.long xw), .second, .val (.long xd), .second, .val (.long xf), .second, .val (.long xx), .second, .val (.long xv), .second, .val (.int xs), .val (.long bw), .second, .val (.long bd), .second, .val (.long bf), .second, .unset, .unset, .unset, .unset, .unset, .unset, .unset, .unset, .unset, .unset, .unset, .unset, .unset] [(.int (xs &&& (8 : Int32)))])) t := by
    intro t k
    show Steps p.tables e below (s₁.setTop (mkF m 51 #[.val (.long xw), .second, .val (.long xd), .second, .val (.long xf), .second, .val (.long xx), .second, .val (.long xv), .second, .val (.int xs), .val (.long bw), .second, .val (.long bd), .second, .val (.long bf), .second, .unset, .unset, .unset, .unset, .unset, .unset, .unset, .unset, .unset, .unset, .unset, .unset, .unset] [(.int (xs &&& (8 : Int32)))])) _
    by_cases hc13 : (xs &&& (8 : Int32)) = (0 : Int32)
    · refine XS.ifYes X0.here hx rfl (pc0 := 51) (pc' := 59) rfl (hb hby at_51) rfl ((if0 _ _).trans (teq hc13).1) (by decide) (by decide) ?_
      show Steps p.tables e below (s₁.setTop (mkF m 59 #[.val (.long xw), .second, .val (.long xd), .second, .val (.long xf), .second, .val (.long xx), .second, .val (.long xv), .second, .val (.int xs), .val (.long bw), .second, .val (.long bd), .second, .val (.long bf), .second, .unset, .unset, .unset, .unset, .unset, .unset, .unset, .unset, .unset, .unset, .unset, .unset, .unset] [])) _
      refine XS.lload X0.here hx rfl (hb hby at_59) rfl ?_
      simp only [if_pos hc13] at k
      exact k
    · refine XS.ifNo X0.here hx rfl (hb hby at_51) rfl ((if0 _ _).trans (feq hc13).1) ?_
      show Steps p.tables e below (s₁.setTop (mkF m 54 #[.val (.long xw), .second, .val (.long xd), .second, .val (.long xf), .second, .val (.long xx), .second, .val (.long xv), .second, .val (.int xs), .val (.long bw), .second, .val (.long bd), .second, .val (.long bf), .second, .unset, .unset, .unset, .unset, .unset, .unset, .unset, .unset, .unset, .unset, .unset, .unset, .unset] [])) _
      refine XS.lload X0.here hx rfl (hb hby at_54) rfl ?_
      show Steps p.tables e below (s₁.setTop (mkF m 56 #[.val (.long xw), .second, .val (.long xd), .second, .val (.long xf), .second, .val (.long xx), .second, .val (.long xv), .second, .val (.int xs), .val (.long bw), .second, .val (.long bd), .second, .val (.long bf), .second, .unset, .unset, .unset, .unset, .unset, .unset, .unset, .unset, .unset, .unset, .unset, .unset, .unset] [(.long xv)])) _
      refine XS.goto X0.here hx rfl (pc0 := 56) (pc' := 61) rfl (hb hby at_56) (by decide) (by decide) ?_
      simp only [if_neg hc13] at k
      exact k
  refine own_go seg12 ?_
  refine own_go (fun _ => XS.lstore X0.here hx rfl (hb hby at_61) rfl (l' := #[.val (.long xw), .second, .val (.long xd), .second, .val (.long xf), .second, .val (.long xx), .second, .val (.long xv), .second, .val (.int xs), .val (.long bw), .second, .val (.long bd), .second, .val (.long bf), .second, .val (.long (if (xs &&& (8 : Int32)) = (0 : Int32) then xx else xv)), .second, .unset, .unset, .unset, .unset, .unset, .unset, .unset, .unset, .unset, .unset, .unset]) rfl) ?_
  show ∃ t o, Steps p.tables e below (s₁.setTop (mkF m 63 #[.val (.long xw), .second, .val (.long xd), .second, .val (.long xf), .second, .val (.long xx), .second, .val (.long xv), .second, .val (.int xs), .val (.long bw), .second, .val (.long bd), .second, .val (.long bf), .second, .val (.long (if (xs &&& (8 : Int32)) = (0 : Int32) then xx else xv)), .second, .unset, .unset, .unset, .unset, .unset, .unset, .unset, .unset, .unset, .unset, .unset] [])) t ∧ _
  obtain ⟨bx, e_bx⟩ : ∃ z : Int64, z = (if (xs &&& (8 : Int32)) = (0 : Int32) then xx else xv) := ⟨_, rfl⟩
  rw [← e_bx]
  show ∃ t o, Steps p.tables e below (s₁.setTop (mkF m 63 #[.val (.long xw), .second, .val (.long xd), .second, .val (.long xf), .second, .val (.long xx), .second, .val (.long xv), .second, .val (.int xs), .val (.long bw), .second, .val (.long bd), .second, .val (.long bf), .second, .val (.long bx), .second, .unset, .unset, .unset, .unset, .unset, .unset, .unset, .unset, .unset, .unset, .unset] [])) t ∧ _
  obtain ⟨T14, h14, X14, e14, E14, A14, D14, -, st14⟩ := newO X0 hx hZ hown w_0 w_1 w_2 e0 (g := (mkF m 63 #[.val (.long xw), .second, .val (.long xd), .second, .val (.long xf), .second, .val (.long xx), .second, .val (.long xv), .second, .val (.int xs), .val (.long bw), .second, .val (.long bd), .second, .val (.long bf), .second, .val (.long bx), .second, .unset, .unset, .unset, .unset, .unset, .unset, .unset, .unset, .unset, .unset, .unset] [])) rfl (hb hby at_63) (by decide) (by decide)
  obtain ⟨b14, g14⟩ : ∃ z, z = h0.size := ⟨_, rfl⟩
  rw [← g14] at A14 D14 st14
  refine own_go st14 ?_
  have le_14 : h0.size ≤ h14.size := E14.1
  have lt_b14 : b14 < h14.size := A14.lt
  have F_waiting_b14 : Fld Z h14 b14 "com/example/libtardy/libtardy/QueueCounts" "waiting" "J" (.long (0 : Int64)) := D14 (Or.inr w_10) (ty := .long) (by decide)
  have F_due_b14 : Fld Z h14 b14 "com/example/libtardy/libtardy/QueueCounts" "due" "J" (.long (0 : Int64)) := D14 (Or.inr w_12) (ty := .long) (by decide)
  have F_inFlight_b14 : Fld Z h14 b14 "com/example/libtardy/libtardy/QueueCounts" "inFlight" "J" (.long (0 : Int64)) := D14 (Or.inr w_14) (ty := .long) (by decide)
  have F_dead_b14 : Fld Z h14 b14 "com/example/libtardy/libtardy/QueueCounts" "dead" "J" (.long (0 : Int64)) := D14 (Or.inr w_16) (ty := .long) (by decide)
  have K14 : Keep h0 h14 [] := Keep.ext (Keep.refl h0 []) E14
  have CH15 := CHr.trans CH0 (CHr.ext E14 CH0.1)
  refine own_go (fun _ => XS.dup X14.here hx rfl (hb hby at_66) rfl rfl) ?_
  refine own_go (fun _ => XS.lloadN X14.here hx rfl (hb hby at_67) rfl) ?_
  refine own_go (fun _ => XS.lloadN X14.here hx rfl (hb hby at_68) rfl) ?_
  refine own_go (fun _ => XS.lload X14.here hx rfl (hb hby at_69) rfl) ?_
  refine own_go (fun _ => XS.lload X14.here hx rfl (hb hby at_71) rfl) ?_
  show ∃ t o, Steps p.tables e below (T14.setTop (mkF m 73 #[.val (.long xw), .second, .val (.long xd), .second, .val (.long xf), .second, .val (.long xx), .second, .val (.long xv), .second, .val (.int xs), .val (.long bw), .second, .val (.long bd), .second, .val (.long bf), .second, .val (.long bx), .second, .unset, .unset, .unset, .unset, .unset, .unset, .unset, .unset, .unset, .unset, .unset] [(.long xx), (.long xf), (.long xd), (.long xw), (.ref b14), (.ref b14)])) t ∧ _
  have F16 := (OLD.ext E14)
  have ge17 : n0 ≤ b14 := by omega
  have zl18 : n0 ≤ h14.size := by omega
  have sf19 := Safe.exa (EL := own_EL) hZ.alike A14 (by decide) (by decide)
  obtain ⟨_, _, ⟨T20, L20, k20, n20⟩, -, X20, ⟨Lc20, hQ20, l20, y20, z20⟩, st20⟩ := X14.specialBack hx (y := (⟨"com/example/libtardy/libtardy/QueueCounts", "<init>", "(JJJJ)V"⟩ : MethodName)) rfl hown (mvT hZ w_3) (mvT hZ w_4) (mvT hZ w_5) (by decide) (backOf (W := 1) (rmQI l Z a0 hw [] b14 xw xd xf xx h14 n0 zl18 A14 F_waiting_b14 F_due_b14 F_inFlight_b14 F_dead_b14 F16 ge17) hZ w_5 w_2 (by decide) (by decide)) (g := (mkF m 73 #[.val (.long xw), .second, .val (.long xd), .second, .val (.long xf), .second, .val (.long xx), .second, .val (.long xv), .second, .val (.int xs), .val (.long bw), .second, .val (.long bd), .second, .val (.long bf), .second, .val (.long bx), .second, .unset, .unset, .unset, .unset, .unset, .unset, .unset, .unset, .unset, .unset, .unset] [(.long xx), (.long xf), (.long xd), (.long xw), (.ref b14), (.ref b14)])) rfl (by rw [hml]; rfl) (Steps.refl _) (a := b14) (argsL := [(.long xw), (.long xd), (.long xf), (.long xx)]) (rest := [(.ref b14)]) (lenOf pd__28JJJJ_29V rfl) rfl (by show 2 * 0 + _ ≤ _; exact Nat.le_of_eq rfl) (hb hby at_73) (fun _ _ => ⟨rfl, e14, (by decide : 1 + 0 ≤ _), (by decide : 4 + 0 ≤ _)⟩)
  dsimp only [Pt.U, Pt.locs, Pt.cells, Pt.slots] at X20 l20 y20 z20 st20 hQ20
  rw [l20, y20, z20] at X20
  obtain ⟨rfl, Nq20, Kp20, G20_0, G20_1, G20_2, G20_3, G20_4⟩ := hQ20
  have N20 := Fr.app N0 Nq20
  refine own_goT st20 ?_
  have le_20 : h14.size ≤ T20.heap.size := Kp20.1
  have sz21 : h0.size ≤ b14 := by omega
  have K20 : Keep h0 T20.heap [] := Keep.trans K14 Kp20 (allS (Or.inr sz21) all0)
  have CH22 := CHr.trans CH15 (CHr.keep Kp20 (allS sf19 all0) CH15.1)
  refine own_go (fun _ => XS.astore X20.here hx rfl (hb hby at_76) rfl rfl (l' := #[.val (.long xw), .second, .val (.long xd), .second, .val (.long xf), .second, .val (.long xx), .second, .val (.long xv), .second, .val (.int xs), .val (.long bw), .second, .val (.long bd), .second, .val (.long bf), .second, .val (.long bx), .second, .val (.ref b14), .unset, .unset, .unset, .unset, .unset, .unset, .unset, .unset, .unset, .unset]) rfl) ?_
  show ∃ t o, Steps p.tables e below (T20.setTop (mkF m 78 #[.val (.long xw), .second, .val (.long xd), .second, .val (.long xf), .second, .val (.long xx), .second, .val (.long xv), .second, .val (.int xs), .val (.long bw), .second, .val (.long bd), .second, .val (.long bf), .second, .val (.long bx), .second, .val (.ref b14), .unset, .unset, .unset, .unset, .unset, .unset, .unset, .unset, .unset, .unset] [])) t ∧ _
  obtain ⟨T23, h23, X23, e23, E23, A23, D23, -, st23⟩ := newO X20 hx hZ hown w_0 w_1 w_2 rfl (g := (mkF m 78 #[.val (.long xw), .second, .val (.long xd), .second, .val (.long xf), .second, .val (.long xx), .second, .val (.long xv), .second, .val (.int xs), .val (.long bw), .second, .val (.long bd), .second, .val (.long bf), .second, .val (.long bx), .second, .val (.ref b14), .unset, .unset, .unset, .unset, .unset, .unset, .unset, .unset, .unset, .unset] [])) rfl (hb hby at_78) (by decide) (by decide)
  obtain ⟨b23, g23⟩ : ∃ z, z = T20.heap.size := ⟨_, rfl⟩
  rw [← g23] at A23 D23 st23
  refine own_go st23 ?_
  have le_23 : T20.heap.size ≤ h23.size := E23.1
  have lt_b23 : b23 < h23.size := A23.lt
  have F_waiting_b23 : Fld Z h23 b23 "com/example/libtardy/libtardy/QueueCounts" "waiting" "J" (.long (0 : Int64)) := D23 (Or.inr w_10) (ty := .long) (by decide)
  have F_due_b23 : Fld Z h23 b23 "com/example/libtardy/libtardy/QueueCounts" "due" "J" (.long (0 : Int64)) := D23 (Or.inr w_12) (ty := .long) (by decide)
  have F_inFlight_b23 : Fld Z h23 b23 "com/example/libtardy/libtardy/QueueCounts" "inFlight" "J" (.long (0 : Int64)) := D23 (Or.inr w_14) (ty := .long) (by decide)
  have F_dead_b23 : Fld Z h23 b23 "com/example/libtardy/libtardy/QueueCounts" "dead" "J" (.long (0 : Int64)) := D23 (Or.inr w_16) (ty := .long) (by decide)
  have K23 : Keep h0 h23 [] := Keep.ext K20 E23
  have CH24 := CHr.trans CH22 (CHr.ext E23 CH22.1)
  refine own_go (fun _ => XS.dup X23.here hx rfl (hb hby at_81) rfl rfl) ?_
  refine own_go (fun _ => XS.lload X23.here hx rfl (hb hby at_82) rfl) ?_
  refine own_go (fun _ => XS.lload X23.here hx rfl (hb hby at_84) rfl) ?_
  refine own_go (fun _ => XS.lload X23.here hx rfl (hb hby at_86) rfl) ?_
  refine own_go (fun _ => XS.lload X23.here hx rfl (hb hby at_88) rfl) ?_
  show ∃ t o, Steps p.tables e below (T23.setTop (mkF m 90 #[.val (.long xw), .second, .val (.long xd), .second, .val (.long xf), .second, .val (.long xx), .second, .val (.long xv), .second, .val (.int xs), .val (.long bw), .second, .val (.long bd), .second, .val (.long bf), .second, .val (.long bx), .second, .val (.ref b14), .unset, .unset, .unset, .unset, .unset, .unset, .unset, .unset, .unset, .unset] [(.long bx), (.long bf), (.long bd), (.long bw), (.ref b23), (.ref b23)])) t ∧ _
  have F25 := ((Old.keep F16 Kp20 (allS ge17 all0)).ext E23)
  have ge26 : n0 ≤ b23 := by omega
  have zl27 : n0 ≤ h23.size := by omega
  have sf28 := Safe.exa (EL := own_EL) hZ.alike A23 (by decide) (by decide)
  obtain ⟨_, _, ⟨T29, L29, k29, n29⟩, -, X29, ⟨Lc29, hQ29, l29, y29, z29⟩, st29⟩ := X23.specialBack hx (y := (⟨"com/example/libtardy/libtardy/QueueCounts", "<init>", "(JJJJ)V"⟩ : MethodName)) rfl hown (mvT hZ w_3) (mvT hZ w_4) (mvT hZ w_5) (by decide) (backOf (W := 1) (rmQI l Z a0 hw [] b23 bw bd bf bx h23 n0 zl27 A23 F_waiting_b23 F_due_b23 F_inFlight_b23 F_dead_b23 F25 ge26) hZ w_5 w_2 (by decide) (by decide)) (g := (mkF m 90 #[.val (.long xw), .second, .val (.long xd), .second, .val (.long xf), .second, .val (.long xx), .second, .val (.long xv), .second, .val (.int xs), .val (.long bw), .second, .val (.long bd), .second, .val (.long bf), .second, .val (.long bx), .second, .val (.ref b14), .unset, .unset, .unset, .unset, .unset, .unset, .unset, .unset, .unset, .unset] [(.long bx), (.long bf), (.long bd), (.long bw), (.ref b23), (.ref b23)])) rfl (by rw [hml]; rfl) (Steps.refl _) (a := b23) (argsL := [(.long bw), (.long bd), (.long bf), (.long bx)]) (rest := [(.ref b23)]) (lenOf pd__28JJJJ_29V rfl) rfl (by show 2 * 0 + _ ≤ _; exact Nat.le_of_eq rfl) (hb hby at_90) (fun _ _ => ⟨rfl, e23, (by decide : 2 + 0 ≤ _), (by decide : 8 + 0 ≤ _)⟩)
  dsimp only [Pt.U, Pt.locs, Pt.cells, Pt.slots] at X29 l29 y29 z29 st29 hQ29
  rw [l29, y29, z29] at X29
  obtain ⟨rfl, Nq29, Kp29, G29_0, G29_1, G29_2, G29_3, G29_4⟩ := hQ29
  have N29 := Fr.app N20 Nq29
  refine own_goT st29 ?_
  have le_29 : h23.size ≤ T29.heap.size := Kp29.1
  have sz30 : h0.size ≤ b23 := by omega
  have K29 : Keep h0 T29.heap [] := Keep.trans K23 Kp29 (allS (Or.inr sz30) all0)
  have CH31 := CHr.trans CH24 (CHr.keep Kp29 (allS sf28 all0) CH24.1)
  refine own_go (fun _ => XS.astore X29.here hx rfl (hb hby at_93) rfl rfl (l' := #[.val (.long xw), .second, .val (.long xd), .second, .val (.long xf), .second, .val (.long xx), .second, .val (.long xv), .second, .val (.int xs), .val (.long bw), .second, .val (.long bd), .second, .val (.long bf), .second, .val (.long bx), .second, .val (.ref b14), .val (.ref b23), .unset, .unset, .unset, .unset, .unset, .unset, .unset, .unset, .unset]) rfl) ?_
  refine own_go (fun _ => XS.lloadN X29.here hx rfl (hb hby at_95) rfl) ?_
  refine own_go (fun _ => XS.lload X29.here hx rfl (hb hby at_96) rfl) ?_
  refine own_go (fun _ => XS.lcmp X29.here hx rfl (hb hby at_98) rfl) ?_
  show ∃ t o, Steps p.tables e below (T29.setTop (mkF m 99 #[.val (.long xw), .second, .val (.long xd), .second, .val (.long xf), .second, .val (.long xx), .second, .val (.long xv), .second, .val (.int xs), .val (.long bw), .second, .val (.long bd), .second, .val (.long bf), .second, .val (.long bx), .second, .val (.ref b14), .val (.ref b23), .unset, .unset, .unset, .unset, .unset, .unset, .unset, .unset, .unset] [(.int (lcmpW xw bw))])) t ∧ _
  have seg32 : ∀ t, Steps p.tables e below (T29.setTop (mkF m 130 #[.val (.long xw), .second, .val (.long xd), .second, .val (.long xf), .second, .val (.long xx), .second, .val (.long xv), .second, .val (.int xs), .val (.long bw), .second, .val (.long bd), .second, .val (.long bf), .second, .val (.long bx), .second, .val (.ref b14), .val (.ref b23), .unset, .unset, .unset, .unset, .unset, .unset, .unset, .unset, .unset] [(.int (if xw = bw then (if xd = bd then (if xf = bf then (if xx = bx then (1 : Int32) else (0 : Int32)) else (0 : Int32)) else (0 : Int32)) else (0 : Int32)))])) t → Steps p.tables e below (T29.setTop (mkF m 99 #[.val (.long xw), .second, .val (.long xd), .second, .val (.long xf), .second, .val (.long xx), .second, .val (.long xv), .second, .val (.int xs), .val (.long bw), .second, .val (.long bd), .second, .val (.long bf), .second, .val (.long bx), .second, .val (.ref b14), .val (.ref b23), .unset, .unset, .unset, .unset, .unset, .unset, .unset, .unset, .unset] [(.int (lcmpW xw bw))])) t := by
    intro t k
    show Steps p.tables e below (T29.setTop (mkF m 99 #[.val (.long xw), .second, .val (.long xd), .second, .val (.long xf), .second, .val (.long xx), .second, .val (.long xv), .second, .val (.int xs), .val (.long bw), .second, .val (.long bd), .second, .val (.long bf), .second, .val (.long bx), .second, .val (.ref b14), .val (.ref b23), .unset, .unset, .unset, .unset, .unset, .unset, .unset, .unset, .unset] [(.int (lcmpW xw bw))])) _
    by_cases hc33 : xw = bw
    · refine XS.ifNo X29.here hx rfl (hb hby at_99) rfl ((if0 _ _).trans (teq ((lw_eq _ _).mpr hc33)).2) ?_
      show Steps p.tables e below (T29.setTop (mkF m 102 #[.val (.long xw), .second, .val (.long xd), .second, .val (.long xf), .second, .val (.long xx), .second, .val (.long xv), .second, .val (.int xs), .val (.long bw), .second, .val (.long bd), .second, .val (.long bf), .second, .val (.long bx), .second, .val (.ref b14), .val (.ref b23), .unset, .unset, .unset, .unset, .unset, .unset, .unset, .unset, .unset] [])) _
      refine XS.lloadN X29.here hx rfl (hb hby at_102) rfl ?_
      show Steps p.tables e below (T29.setTop (mkF m 103 #[.val (.long xw), .second, .val (.long xd), .second, .val (.long xf), .second, .val (.long xx), .second, .val (.long xv), .second, .val (.int xs), .val (.long bw), .second, .val (.long bd), .second, .val (.long bf), .second, .val (.long bx), .second, .val (.ref b14), .val (.ref b23), .unset, .unset, .unset, .unset, .unset, .unset, .unset, .unset, .unset] [(.long xd)])) _
      refine XS.lload X29.here hx rfl (hb hby at_103) rfl ?_
      show Steps p.tables e below (T29.setTop (mkF m 105 #[.val (.long xw), .second, .val (.long xd), .second, .val (.long xf), .second, .val (.long xx), .second, .val (.long xv), .second, .val (.int xs), .val (.long bw), .second, .val (.long bd), .second, .val (.long bf), .second, .val (.long bx), .second, .val (.ref b14), .val (.ref b23), .unset, .unset, .unset, .unset, .unset, .unset, .unset, .unset, .unset] [(.long bd), (.long xd)])) _
      refine XS.lcmp X29.here hx rfl (hb hby at_105) rfl ?_
      show Steps p.tables e below (T29.setTop (mkF m 106 #[.val (.long xw), .second, .val (.long xd), .second, .val (.long xf), .second, .val (.long xx), .second, .val (.long xv), .second, .val (.int xs), .val (.long bw), .second, .val (.long bd), .second, .val (.long bf), .second, .val (.long bx), .second, .val (.ref b14), .val (.ref b23), .unset, .unset, .unset, .unset, .unset, .unset, .unset, .unset, .unset] [(.int (lcmpW xd bd))])) _
      by_cases hc34 : xd = bd
      · refine XS.ifNo X29.here hx rfl (hb hby at_106) rfl ((if0 _ _).trans (teq ((lw_eq _ _).mpr hc34)).2) ?_
        show Steps p.tables e below (T29.setTop (mkF m 109 #[.val (.long xw), .second, .val (.long xd), .second, .val (.long xf), .second, .val (.long xx), .second, .val (.long xv), .second, .val (.int xs), .val (.long bw), .second, .val (.long bd), .second, .val (.long bf), .second, .val (.long bx), .second, .val (.ref b14), .val (.ref b23), .unset, .unset, .unset, .unset, .unset, .unset, .unset, .unset, .unset] [])) _
        refine XS.lload X29.here hx rfl (hb hby at_109) rfl ?_
        show Steps p.tables e below (T29.setTop (mkF m 111 #[.val (.long xw), .second, .val (.long xd), .second, .val (.long xf), .second, .val (.long xx), .second, .val (.long xv), .second, .val (.int xs), .val (.long bw), .second, .val (.long bd), .second, .val (.long bf), .second, .val (.long bx), .second, .val (.ref b14), .val (.ref b23), .unset, .unset, .unset, .unset, .unset, .unset, .unset, .unset, .unset] [(.long xf)])) _
        refine XS.lload X29.here hx rfl (hb hby at_111) rfl ?_
        show Steps p.tables e below (T29.setTop (mkF m 113 #[.val (.long xw), .second, .val (.long xd), .second, .val (.long xf), .second, .val (.long xx), .second, .val (.long xv), .second, .val (.int xs), .val (.long bw), .second, .val (.long bd), .second, .val (.long bf), .second, .val (.long bx), .second, .val (.ref b14), .val (.ref b23), .unset, .unset, .unset, .unset, .unset, .unset, .unset, .unset, .unset] [(.long bf), (.long xf)])) _
        refine XS.lcmp X29.here hx rfl (hb hby at_113) rfl ?_
        show Steps p.tables e below (T29.setTop (mkF m 114 #[.val (.long xw), .second, .val (.long xd), .second, .val (.long xf), .second, .val (.long xx), .second, .val (.long xv), .second, .val (.int xs), .val (.long bw), .second, .val (.long bd), .second, .val (.long bf), .second, .val (.long bx), .second, .val (.ref b14), .val (.ref b23), .unset, .unset, .unset, .unset, .unset, .unset, .unset, .unset, .unset] [(.int (lcmpW xf bf))])) _
        by_cases hc35 : xf = bf
        · refine XS.ifNo X29.here hx rfl (hb hby at_114) rfl ((if0 _ _).trans (teq ((lw_eq _ _).mpr hc35)).2) ?_
          show Steps p.tables e below (T29.setTop (mkF m 117 #[.val (.long xw), .second, .val (.long xd), .second, .val (.long xf), .second, .val (.long xx), .second, .val (.long xv), .second, .val (.int xs), .val (.long bw), .second, .val (.long bd), .second, .val (.long bf), .second, .val (.long bx), .second, .val (.ref b14), .val (.ref b23), .unset, .unset, .unset, .unset, .unset, .unset, .unset, .unset, .unset] [])) _
          refine XS.lload X29.here hx rfl (hb hby at_117) rfl ?_
          show Steps p.tables e below (T29.setTop (mkF m 119 #[.val (.long xw), .second, .val (.long xd), .second, .val (.long xf), .second, .val (.long xx), .second, .val (.long xv), .second, .val (.int xs), .val (.long bw), .second, .val (.long bd), .second, .val (.long bf), .second, .val (.long bx), .second, .val (.ref b14), .val (.ref b23), .unset, .unset, .unset, .unset, .unset, .unset, .unset, .unset, .unset] [(.long xx)])) _
          refine XS.lload X29.here hx rfl (hb hby at_119) rfl ?_
          show Steps p.tables e below (T29.setTop (mkF m 121 #[.val (.long xw), .second, .val (.long xd), .second, .val (.long xf), .second, .val (.long xx), .second, .val (.long xv), .second, .val (.int xs), .val (.long bw), .second, .val (.long bd), .second, .val (.long bf), .second, .val (.long bx), .second, .val (.ref b14), .val (.ref b23), .unset, .unset, .unset, .unset, .unset, .unset, .unset, .unset, .unset] [(.long bx), (.long xx)])) _
          refine XS.lcmp X29.here hx rfl (hb hby at_121) rfl ?_
          show Steps p.tables e below (T29.setTop (mkF m 122 #[.val (.long xw), .second, .val (.long xd), .second, .val (.long xf), .second, .val (.long xx), .second, .val (.long xv), .second, .val (.int xs), .val (.long bw), .second, .val (.long bd), .second, .val (.long bf), .second, .val (.long bx), .second, .val (.ref b14), .val (.ref b23), .unset, .unset, .unset, .unset, .unset, .unset, .unset, .unset, .unset] [(.int (lcmpW xx bx))])) _
          by_cases hc36 : xx = bx
          · refine XS.ifNo X29.here hx rfl (hb hby at_122) rfl ((if0 _ _).trans (teq ((lw_eq _ _).mpr hc36)).2) ?_
            show Steps p.tables e below (T29.setTop (mkF m 125 #[.val (.long xw), .second, .val (.long xd), .second, .val (.long xf), .second, .val (.long xx), .second, .val (.long xv), .second, .val (.int xs), .val (.long bw), .second, .val (.long bd), .second, .val (.long bf), .second, .val (.long bx), .second, .val (.ref b14), .val (.ref b23), .unset, .unset, .unset, .unset, .unset, .unset, .unset, .unset, .unset] [])) _
            refine XS.iconst X29.here hx rfl (hb hby at_125) ?_
            show Steps p.tables e below (T29.setTop (mkF m 126 #[.val (.long xw), .second, .val (.long xd), .second, .val (.long xf), .second, .val (.long xx), .second, .val (.long xv), .second, .val (.int xs), .val (.long bw), .second, .val (.long bd), .second, .val (.long bf), .second, .val (.long bx), .second, .val (.ref b14), .val (.ref b23), .unset, .unset, .unset, .unset, .unset, .unset, .unset, .unset, .unset] [(.int (1 : Int32))])) _
            refine XS.goto X29.here hx rfl (pc0 := 126) (pc' := 130) rfl (hb hby at_126) (by decide) (by decide) ?_
            simp only [if_pos hc33, if_pos hc34, if_pos hc35, if_pos hc36] at k
            exact k
          · refine XS.ifYes X29.here hx rfl (pc0 := 122) (pc' := 129) rfl (hb hby at_122) rfl ((if0 _ _).trans (feq (mt (lw_eq _ _).mp hc36)).2) (by decide) (by decide) ?_
            show Steps p.tables e below (T29.setTop (mkF m 129 #[.val (.long xw), .second, .val (.long xd), .second, .val (.long xf), .second, .val (.long xx), .second, .val (.long xv), .second, .val (.int xs), .val (.long bw), .second, .val (.long bd), .second, .val (.long bf), .second, .val (.long bx), .second, .val (.ref b14), .val (.ref b23), .unset, .unset, .unset, .unset, .unset, .unset, .unset, .unset, .unset] [])) _
            refine XS.iconst X29.here hx rfl (hb hby at_129) ?_
            simp only [if_pos hc33, if_pos hc34, if_pos hc35, if_neg hc36] at k
            exact k
        · refine XS.ifYes X29.here hx rfl (pc0 := 114) (pc' := 129) rfl (hb hby at_114) rfl ((if0 _ _).trans (feq (mt (lw_eq _ _).mp hc35)).2) (by decide) (by decide) ?_
          show Steps p.tables e below (T29.setTop (mkF m 129 #[.val (.long xw), .second, .val (.long xd), .second, .val (.long xf), .second, .val (.long xx), .second, .val (.long xv), .second, .val (.int xs), .val (.long bw), .second, .val (.long bd), .second, .val (.long bf), .second, .val (.long bx), .second, .val (.ref b14), .val (.ref b23), .unset, .unset, .unset, .unset, .unset, .unset, .unset, .unset, .unset] [])) _
          refine XS.iconst X29.here hx rfl (hb hby at_129) ?_
          simp only [if_pos hc33, if_pos hc34, if_neg hc35] at k
          exact k
      · refine XS.ifYes X29.here hx rfl (pc0 := 106) (pc' := 129) rfl (hb hby at_106) rfl ((if0 _ _).trans (feq (mt (lw_eq _ _).mp hc34)).2) (by decide) (by decide) ?_
        show Steps p.tables e below (T29.setTop (mkF m 129 #[.val (.long xw), .second, .val (.long xd), .second, .val (.long xf), .second, .val (.long xx), .second, .val (.long xv), .second, .val (.int xs), .val (.long bw), .second, .val (.long bd), .second, .val (.long bf), .second, .val (.long bx), .second, .val (.ref b14), .val (.ref b23), .unset, .unset, .unset, .unset, .unset, .unset, .unset, .unset, .unset] [])) _
        refine XS.iconst X29.here hx rfl (hb hby at_129) ?_
        simp only [if_pos hc33, if_neg hc34] at k
        exact k
    · refine XS.ifYes X29.here hx rfl (pc0 := 99) (pc' := 129) rfl (hb hby at_99) rfl ((if0 _ _).trans (feq (mt (lw_eq _ _).mp hc33)).2) (by decide) (by decide) ?_
      show Steps p.tables e below (T29.setTop (mkF m 129 #[.val (.long xw), .second, .val (.long xd), .second, .val (.long xf), .second, .val (.long xx), .second, .val (.long xv), .second, .val (.int xs), .val (.long bw), .second, .val (.long bd), .second, .val (.long bf), .second, .val (.long bx), .second, .val (.ref b14), .val (.ref b23), .unset, .unset, .unset, .unset, .unset, .unset, .unset, .unset, .unset] [])) _
      refine XS.iconst X29.here hx rfl (hb hby at_129) ?_
      simp only [if_neg hc33] at k
      exact k
  refine own_go seg32 ?_
  refine own_go (fun _ => XS.istore X29.here hx rfl (hb hby at_130) rfl (l' := #[.val (.long xw), .second, .val (.long xd), .second, .val (.long xf), .second, .val (.long xx), .second, .val (.long xv), .second, .val (.int xs), .val (.long bw), .second, .val (.long bd), .second, .val (.long bf), .second, .val (.long bx), .second, .val (.ref b14), .val (.ref b23), .val (.int (if xw = bw then (if xd = bd then (if xf = bf then (if xx = bx then (1 : Int32) else (0 : Int32)) else (0 : Int32)) else (0 : Int32)) else (0 : Int32))), .unset, .unset, .unset, .unset, .unset, .unset, .unset, .unset]) rfl) ?_
  show ∃ t o, Steps p.tables e below (T29.setTop (mkF m 132 #[.val (.long xw), .second, .val (.long xd), .second, .val (.long xf), .second, .val (.long xx), .second, .val (.long xv), .second, .val (.int xs), .val (.long bw), .second, .val (.long bd), .second, .val (.long bf), .second, .val (.long bx), .second, .val (.ref b14), .val (.ref b23), .val (.int (if xw = bw then (if xd = bd then (if xf = bf then (if xx = bx then (1 : Int32) else (0 : Int32)) else (0 : Int32)) else (0 : Int32)) else (0 : Int32))), .unset, .unset, .unset, .unset, .unset, .unset, .unset, .unset] [])) t ∧ _
  obtain ⟨sm, e_sm⟩ : ∃ z : Int32, z = (if xw = bw then (if xd = bd then (if xf = bf then (if xx = bx then (1 : Int32) else (0 : Int32)) else (0 : Int32)) else (0 : Int32)) else (0 : Int32)) := ⟨_, rfl⟩
  rw [← e_sm]
  show ∃ t o, Steps p.tables e below (T29.setTop (mkF m 132 #[.val (.long xw), .second, .val (.long xd), .second, .val (.long xf), .second, .val (.long xx), .second, .val (.long xv), .second, .val (.int xs), .val (.long bw), .second, .val (.long bd), .second, .val (.long bf), .second, .val (.long bx), .second, .val (.ref b14), .val (.ref b23), .val (.int sm), .unset, .unset, .unset, .unset, .unset, .unset, .unset, .unset] [])) t ∧ _
  refine own_go (fun _ => XS.aload X29.here hx rfl (hb hby at_132) rfl rfl) ?_
  show ∃ t o, Steps p.tables e below (T29.setTop (mkF m 134 #[.val (.long xw), .second, .val (.long xd), .second, .val (.long xf), .second, .val (.long xx), .second, .val (.long xv), .second, .val (.int xs), .val (.long bw), .second, .val (.long bd), .second, .val (.long bf), .second, .val (.long bx), .second, .val (.ref b14), .val (.ref b23), .val (.int sm), .unset, .unset, .unset, .unset, .unset, .unset, .unset, .unset] [(.ref b14)])) t ∧ _
  have F37 := (Exa.keep (Exa.ext E23 G20_0) Kp29)
  have ne38 : b14 ≠ b23 := own_ne (by omega)
  have F39 := (Fld.keep (Fld.ext E23 G20_1) Kp29 (ninS ne38 nin0))
  have F40 := (Fld.keep (Fld.ext E23 G20_2) Kp29 (ninS ne38 nin0))
  have F41 := (Fld.keep (Fld.ext E23 G20_3) Kp29 (ninS ne38 nin0))
  have F42 := (Fld.keep (Fld.ext E23 G20_4) Kp29 (ninS ne38 nin0))
  have F43 := (Old.keep F25 Kp29 (allS ge26 all0))
  have zl44 : n0 ≤ T29.heap.size := by omega
  obtain ⟨cq45, kq45, q45a, q45b, q45c⟩ := isOf hZ rfl F37
  obtain ⟨_, _, ⟨T45, L45, k45, n45⟩, -, X45, hSn45, hgn45, ⟨Lc45, hQ45, l45, y45, z45, cr45⟩, st45⟩ := X29.virtualBackS hx (y := (⟨"com/example/libtardy/libtardy/QueueCounts", "toString", "()Ljava/lang/String;"⟩ : MethodName)) (z := (⟨"com/example/libtardy/libtardy/QueueCounts", "toString", "()Ljava/lang/String;"⟩ : MethodName)) hown (mvT hZ w_17) (mvT hZ w_18) (notFace_of_selects (args := #[]) (mvT hZ w_20)) (mvT hZ w_20) (mvT hZ w_19) (by decide) (backOfSH (W := 0) (rmQTs l Z a0 hw [] b14 xw xd xf xx zc gd ge kd ke T29.heap n0 zl44 F37 F39 F40 F41 F42 F43 P1 P2 P3 P4 P5 hzc hEL) hZ w_21 w_2 (by decide) (by decide) hEL CH31.1) q45a q45c (g := (mkF m 134 #[.val (.long xw), .second, .val (.long xd), .second, .val (.long xf), .second, .val (.long xx), .second, .val (.long xv), .second, .val (.int xs), .val (.long bw), .second, .val (.long bd), .second, .val (.long bf), .second, .val (.long bx), .second, .val (.ref b14), .val (.ref b23), .val (.int sm), .unset, .unset, .unset, .unset, .unset, .unset, .unset, .unset] [(.ref b14)])) rfl (by rw [hml]; rfl) (Steps.refl _) (argsL := []) (rest := []) (lenOf pd__28_29Ljava_2flang_2fString_3b rfl) rfl (by show 2 * 0 + _ ≤ _; exact Nat.le_of_eq rfl) (hb hby at_134) (fun _ _ => ⟨rfl, rfl, (by decide : 2 + 22 ≤ _), (by decide : 8 + 1502 ≤ _)⟩)
  dsimp only [Pt.U, Pt.locs, Pt.cells, Pt.slots] at X45 l45 y45 z45 st45 hQ45 hSn45 hgn45 cr45
  rw [l45, y45, z45] at X45
  have hZ : Z.Warmed39 (s.setVm T45.vm).vm := State.Warmed39.trans (t := s.setVm s.vm) hZ hSn45.1
  have hown : (s.setVm T45.vm).vm.findClass "com/example/libtardy/libtardy/QueueCountsToStringPinLaw" = some m.cls := by rw [show (s.setVm T45.vm).vm = T45.vm from rfl, hSn45.1.alike.findClass]; exact hown
  have hS : s.Since T45.vm T45.heap.size := foldS (T := T29) hS (Nat.zero_le _) hSn45 hgn45
  have X45 : Stand p l e _ (s.setVm T45.vm) m _ below meth c T45 _ _ _ := X45
  obtain ⟨b_45, tb_45, kb_45, nn_45, rfl, Nq45, Kp45, G45_0, G45_1, G45_2, G45_3, H45_0, H45_1, H45_2⟩ := hQ45
  have N45 := Fr.app N29 Nq45
  refine own_goT st45 ?_
  have le_45 : T29.heap.size ≤ T45.heap.size := Kp45.1
  have K45 : Keep h0 T45.heap [] := Keep.trans K29 Kp45 all0
  have CH46 := CHr.trans CH31 cr45
  have lt_b_45 : b_45 < T45.heap.size := (G45_0).lt
  have lt_tb_45 : tb_45 < T45.heap.size := (G45_3).lt
  refine own_go (fun _ => XS.aload X45.here hx rfl (hb hby at_137) rfl rfl) ?_
  show ∃ t o, Steps p.tables e below (T45.setTop (mkF m 139 #[.val (.long xw), .second, .val (.long xd), .second, .val (.long xf), .second, .val (.long xx), .second, .val (.long xv), .second, .val (.int xs), .val (.long bw), .second, .val (.long bd), .second, .val (.long bf), .second, .val (.long bx), .second, .val (.ref b14), .val (.ref b23), .val (.int sm), .unset, .unset, .unset, .unset, .unset, .unset, .unset, .unset] [(.ref b23), (.ref b_45)])) t ∧ _
  have F47 := (Exa.keep G29_0 Kp45)
  have F48 := (Fld.keep G29_1 Kp45 nin0)
  have F49 := (Fld.keep G29_2 Kp45 nin0)
  have F50 := (Fld.keep G29_3 Kp45 nin0)
  have F51 := (Fld.keep G29_4 Kp45 nin0)
  have F52 := (Old.keep F43 Kp45 all0)
  have zl53 : n0 ≤ T45.heap.size := by omega
  obtain ⟨cq54, kq54, q54a, q54b, q54c⟩ := isOf hZ rfl F47
  obtain ⟨_, _, ⟨T54, L54, k54, n54⟩, -, X54, hSn54, hgn54, ⟨Lc54, hQ54, l54, y54, z54, cr54⟩, st54⟩ := X45.virtualBackS hx (y := (⟨"com/example/libtardy/libtardy/QueueCounts", "toString", "()Ljava/lang/String;"⟩ : MethodName)) (z := (⟨"com/example/libtardy/libtardy/QueueCounts", "toString", "()Ljava/lang/String;"⟩ : MethodName)) hown (mvT hZ w_17) (mvT hZ w_18) (notFace_of_selects (args := #[]) (mvT hZ w_20)) (mvT hZ w_20) (mvT hZ w_19) (by decide) (backOfSH (W := 1) (rmQTs l Z a0 hw [] b23 bw bd bf bx zc gd ge kd ke T45.heap n0 zl53 F47 F48 F49 F50 F51 F52 P1 P2 P3 P4 P5 hzc hEL) hZ w_21 w_2 (by decide) (by decide) hEL CH46.1) q54a q54c (g := (mkF m 139 #[.val (.long xw), .second, .val (.long xd), .second, .val (.long xf), .second, .val (.long xx), .second, .val (.long xv), .second, .val (.int xs), .val (.long bw), .second, .val (.long bd), .second, .val (.long bf), .second, .val (.long bx), .second, .val (.ref b14), .val (.ref b23), .val (.int sm), .unset, .unset, .unset, .unset, .unset, .unset, .unset, .unset] [(.ref b23), (.ref b_45)])) rfl (by rw [hml]; rfl) (Steps.refl _) (argsL := []) (rest := [(.ref b_45)]) (lenOf pd__28_29Ljava_2flang_2fString_3b rfl) rfl (by show 2 * 0 + _ ≤ _; exact Nat.le_of_eq rfl) (hb hby at_139) (fun _ _ => ⟨rfl, rfl, (by decide : 24 + 22 ≤ _), (by decide : 1510 + 1502 ≤ _)⟩)
  dsimp only [Pt.U, Pt.locs, Pt.cells, Pt.slots] at X54 l54 y54 z54 st54 hQ54 hSn54 hgn54 cr54
  rw [l54, y54, z54] at X54
  have hZ : Z.Warmed39 (s.setVm T54.vm).vm := State.Warmed39.trans (t := s.setVm T45.vm) hZ hSn54.1
  have hown : (s.setVm T54.vm).vm.findClass "com/example/libtardy/libtardy/QueueCountsToStringPinLaw" = some m.cls := by rw [show (s.setVm T54.vm).vm = T54.vm from rfl, hSn54.1.alike.findClass]; exact hown
  have hS : s.Since T54.vm T54.heap.size := foldS (T := T45) hS (by omega) hSn54 hgn54
  have X54 : Stand p l e _ (s.setVm T54.vm) m _ below meth c T54 _ _ _ := X54
  obtain ⟨b_54, tb_54, kb_54, nn_54, rfl, Nq54, Kp54, G54_0, G54_1, G54_2, G54_3, H54_0, H54_1, H54_2⟩ := hQ54
  have N54 := Fr.app N45 Nq54
  refine own_goT st54 ?_
  have le_54 : T45.heap.size ≤ T54.heap.size := Kp54.1
  have K54 : Keep h0 T54.heap [] := Keep.trans K45 Kp54 all0
  have CH55 := CHr.trans CH46 cr54
  have lt_b_54 : b_54 < T54.heap.size := (G54_0).lt
  have lt_tb_54 : tb_54 < T54.heap.size := (G54_3).lt
  show ∃ t o, Steps p.tables e below (T54.setTop (mkF m 142 #[.val (.long xw), .second, .val (.long xd), .second, .val (.long xf), .second, .val (.long xx), .second, .val (.long xv), .second, .val (.int xs), .val (.long bw), .second, .val (.long bd), .second, .val (.long bf), .second, .val (.long bx), .second, .val (.ref b14), .val (.ref b23), .val (.int sm), .unset, .unset, .unset, .unset, .unset, .unset, .unset, .unset] [(.ref b_54), (.ref b_45)])) t ∧ _
  have F56 := (Exa.keep G45_0 Kp54)
  have F57 := (Fld.keep G45_1 Kp54 nin0)
  have F58 := (Fld.keep G45_2 Kp54 nin0)
  have F59 := (Arv.keep G45_3 Kp54 nin0)
  have F60 := (Old.keep F52 Kp54 all0)
  have ne61 : b_45 ≠ b_54 := own_ne (by omega)
  have zl62 : n0 ≤ T54.heap.size := by omega
  obtain ⟨cq63, kq63, q63a, q63b, q63c⟩ := isOf hZ rfl F56
  obtain ⟨_, _, ⟨T63, L63, k63, n63⟩, -, X63, ⟨Lc63, hQ63, l63, y63, z63⟩, st63⟩ := X54.virtualBack hx (y := (⟨"java/lang/String", "equals", "(Ljava/lang/Object;)Z"⟩ : MethodName)) (z := (⟨"java/lang/String", "equals", "(Ljava/lang/Object;)Z"⟩ : MethodName)) hown (mvT hZ w_190) (mvT hZ w_191) (notFace_of_selects (args := #[]) (mvT hZ w_193)) (mvT hZ w_193) (mvT hZ w_192) (by decide) (backOf (W := 0) (rmEqG l Z a0 hw [] b_45 b_54 tb_45 kb_45 nn_45 (own_qc xw xd xf xx) tb_54 kb_54 nn_54 (own_qc bw bd bf bx) zc T54.heap n0 zl62 F56 F57 F58 F59 G54_0 G54_1 G54_2 G54_3 F60 P1 hzc (H45_0 : own_fit (own_qc xw xd xf xx) nn_45) (H54_0 : own_fit (own_qc bw bd bf bx) nn_54) ne61) hZ w_194 w_36 (by decide) (by decide)) q63a q63c (g := (mkF m 142 #[.val (.long xw), .second, .val (.long xd), .second, .val (.long xf), .second, .val (.long xx), .second, .val (.long xv), .second, .val (.int xs), .val (.long bw), .second, .val (.long bd), .second, .val (.long bf), .second, .val (.long bx), .second, .val (.ref b14), .val (.ref b23), .val (.int sm), .unset, .unset, .unset, .unset, .unset, .unset, .unset, .unset] [(.ref b_54), (.ref b_45)])) rfl (by rw [hml]; rfl) (Steps.refl _) (argsL := [(.ref b_54)]) (rest := []) (lenOf pd__28Ljava_2flang_2fObject_3b_29Z rfl) rfl (by show 2 * 0 + _ ≤ _; exact Nat.le_of_eq rfl) (hb hby at_142) (fun _ _ => ⟨rfl, rfl, (by decide : 46 + 0 ≤ _), (by decide : 3012 + 0 ≤ _)⟩)
  dsimp only [Pt.U, Pt.locs, Pt.cells, Pt.slots] at X63 l63 y63 z63 st63 hQ63
  rw [l63, y63, z63] at X63
  obtain ⟨r1_63, rfl, Nq63, e63, H63_0⟩ := hQ63
  have N63 := Fr.app N54 Nq63
  refine own_goT st63 ?_
  show ∃ t o, Steps p.tables e below (T63.setTop (mkF m 145 #[.val (.long xw), .second, .val (.long xd), .second, .val (.long xf), .second, .val (.long xx), .second, .val (.long xv), .second, .val (.int xs), .val (.long bw), .second, .val (.long bd), .second, .val (.long bf), .second, .val (.long bx), .second, .val (.ref b14), .val (.ref b23), .val (.int sm), .unset, .unset, .unset, .unset, .unset, .unset, .unset, .unset] [(.int r1_63)])) t ∧ _
  have hrs : r1_63 = sm := by
    rcases H63_0 with ⟨q, z⟩ | ⟨q, z⟩
    · rw [q, e_sm]; exact (own_sm1 (own_qc_inj z)).symm
    · rw [q, e_sm]; exact (own_sm0 (fun y => z (by rw [y.1, y.2.1, y.2.2.1, y.2.2.2]))).symm
  rw [hrs]
  show ∃ t o, Steps p.tables e below (T63.setTop (mkF m 145 #[.val (.long xw), .second, .val (.long xd), .second, .val (.long xf), .second, .val (.long xx), .second, .val (.long xv), .second, .val (.int xs), .val (.long bw), .second, .val (.long bd), .second, .val (.long bf), .second, .val (.long bx), .second, .val (.ref b14), .val (.ref b23), .val (.int sm), .unset, .unset, .unset, .unset, .unset, .unset, .unset, .unset] [(.int sm)])) t ∧ _
  refine own_go (fun _ => XS.iload X63.here hx rfl (hb hby at_145) rfl) ?_
  show ∃ t o, Steps p.tables e below (T63.setTop (mkF m 147 #[.val (.long xw), .second, .val (.long xd), .second, .val (.long xf), .second, .val (.long xx), .second, .val (.long xv), .second, .val (.int xs), .val (.long bw), .second, .val (.long bd), .second, .val (.long bf), .second, .val (.long bx), .second, .val (.ref b14), .val (.ref b23), .val (.int sm), .unset, .unset, .unset, .unset, .unset, .unset, .unset, .unset] [(.int sm), (.int sm)])) t ∧ _
  have hd64 : sm = sm := rfl
  refine own_go (fun _ => XS.icmpNo X63.here hx rfl (hb hby at_147) rfl (teq hd64).2) ?_
  refine own_go (fun _ => XS.iconst X63.here hx rfl (hb hby at_150)) ?_
  refine own_go (fun _ => XS.goto X63.here hx rfl (pc0 := 151) (pc' := 155) rfl (hb hby at_151) (by decide) (by decide)) ?_
  refine own_go (fun _ => XS.istore X63.here hx rfl (hb hby at_155) rfl (l' := #[.val (.long xw), .second, .val (.long xd), .second, .val (.long xf), .second, .val (.long xx), .second, .val (.long xv), .second, .val (.int xs), .val (.long bw), .second, .val (.long bd), .second, .val (.long bf), .second, .val (.long bx), .second, .val (.ref b14), .val (.ref b23), .val (.int sm), .val (.int (1 : Int32)), .unset, .unset, .unset, .unset, .unset, .unset, .unset]) rfl) ?_
  refine own_go (fun _ => XS.lloadN X63.here hx rfl (hb hby at_157) rfl) ?_
  show ∃ t o, Steps p.tables e below (T63.setTop (mkF m 158 #[.val (.long xw), .second, .val (.long xd), .second, .val (.long xf), .second, .val (.long xx), .second, .val (.long xv), .second, .val (.int xs), .val (.long bw), .second, .val (.long bd), .second, .val (.long bf), .second, .val (.long bx), .second, .val (.ref b14), .val (.ref b23), .val (.int sm), .val (.int (1 : Int32)), .unset, .unset, .unset, .unset, .unset, .unset, .unset] [(.long xw)])) t ∧ _
  obtain ⟨_, _, ⟨T65, L65, k65, n65⟩, -, X65, ⟨Lc65, hQ65, l65, y65, z65⟩, st65⟩ := Jvm.LawKit.callS X63 hx (y := (⟨"com/example/libtardy/libtardy/QueueCountsToStringPinLaw", "digit", "(J)I"⟩ : MethodName)) hown (mvT hZ w_200) (mvT hZ w_201) (mvT hZ w_202) (mvT hZ w_203) (by decide) (backOf (W := 0) (rmDig l Z a0 hw [] xw T54.heap n0 zl62 F60) hZ w_203 w_202 (by decide) (by decide)) (g := (mkF m 158 #[.val (.long xw), .second, .val (.long xd), .second, .val (.long xf), .second, .val (.long xx), .second, .val (.long xv), .second, .val (.int xs), .val (.long bw), .second, .val (.long bd), .second, .val (.long bf), .second, .val (.long bx), .second, .val (.ref b14), .val (.ref b23), .val (.int sm), .val (.int (1 : Int32)), .unset, .unset, .unset, .unset, .unset, .unset, .unset] [(.long xw)])) rfl (by rw [hml]; rfl) (argsL := [(.long xw)]) (rest := []) (lenOf pd__28J_29I rfl) rfl (by show 2 * 0 + _ ≤ _; exact Nat.le_of_eq rfl) (hb hby at_158) (fun _ _ => ⟨rfl, e63, (by decide : 46 + 0 ≤ _), (by decide : 3012 + 0 ≤ _)⟩)
  dsimp only [Pt.U, Pt.locs, Pt.cells, Pt.slots] at X65 l65 y65 z65 st65 hQ65
  rw [l65, y65, z65] at X65
  obtain ⟨r1_65, rfl, Nq65, e65, H65_0⟩ := hQ65
  have N65 := Fr.app N63 Nq65
  refine own_go st65 ?_
  refine own_go (fun _ => XS.istore X65.here hx rfl (hb hby at_161) rfl (l' := #[.val (.long xw), .second, .val (.long xd), .second, .val (.long xf), .second, .val (.long xx), .second, .val (.long xv), .second, .val (.int xs), .val (.long bw), .second, .val (.long bd), .second, .val (.long bf), .second, .val (.long bx), .second, .val (.ref b14), .val (.ref b23), .val (.int sm), .val (.int (1 : Int32)), .val (.int r1_65), .unset, .unset, .unset, .unset, .unset, .unset]) rfl) ?_
  refine own_go (fun _ => XS.lloadN X65.here hx rfl (hb hby at_163) rfl) ?_
  show ∃ t o, Steps p.tables e below (T65.setTop (mkF m 164 #[.val (.long xw), .second, .val (.long xd), .second, .val (.long xf), .second, .val (.long xx), .second, .val (.long xv), .second, .val (.int xs), .val (.long bw), .second, .val (.long bd), .second, .val (.long bf), .second, .val (.long bx), .second, .val (.ref b14), .val (.ref b23), .val (.int sm), .val (.int (1 : Int32)), .val (.int r1_65), .unset, .unset, .unset, .unset, .unset, .unset] [(.long xd)])) t ∧ _
  obtain ⟨_, _, ⟨T66, L66, k66, n66⟩, -, X66, ⟨Lc66, hQ66, l66, y66, z66⟩, st66⟩ := Jvm.LawKit.callS X65 hx (y := (⟨"com/example/libtardy/libtardy/QueueCountsToStringPinLaw", "digit", "(J)I"⟩ : MethodName)) hown (mvT hZ w_200) (mvT hZ w_201) (mvT hZ w_202) (mvT hZ w_203) (by decide) (backOf (W := 0) (rmDig l Z a0 hw [] xd T54.heap n0 zl62 F60) hZ w_203 w_202 (by decide) (by decide)) (g := (mkF m 164 #[.val (.long xw), .second, .val (.long xd), .second, .val (.long xf), .second, .val (.long xx), .second, .val (.long xv), .second, .val (.int xs), .val (.long bw), .second, .val (.long bd), .second, .val (.long bf), .second, .val (.long bx), .second, .val (.ref b14), .val (.ref b23), .val (.int sm), .val (.int (1 : Int32)), .val (.int r1_65), .unset, .unset, .unset, .unset, .unset, .unset] [(.long xd)])) rfl (by rw [hml]; rfl) (argsL := [(.long xd)]) (rest := []) (lenOf pd__28J_29I rfl) rfl (by show 2 * 0 + _ ≤ _; exact Nat.le_of_eq rfl) (hb hby at_164) (fun _ _ => ⟨rfl, e65, (by decide : 46 + 0 ≤ _), (by decide : 3012 + 0 ≤ _)⟩)
  dsimp only [Pt.U, Pt.locs, Pt.cells, Pt.slots] at X66 l66 y66 z66 st66 hQ66
  rw [l66, y66, z66] at X66
  obtain ⟨r1_66, rfl, Nq66, e66, H66_0⟩ := hQ66
  have N66 := Fr.app N65 Nq66
  refine own_go st66 ?_
  refine own_go (fun _ => XS.istore X66.here hx rfl (hb hby at_167) rfl (l' := #[.val (.long xw), .second, .val (.long xd), .second, .val (.long xf), .second, .val (.long xx), .second, .val (.long xv), .second, .val (.int xs), .val (.long bw), .second, .val (.long bd), .second, .val (.long bf), .second, .val (.long bx), .second, .val (.ref b14), .val (.ref b23), .val (.int sm), .val (.int (1 : Int32)), .val (.int r1_65), .val (.int r1_66), .unset, .unset, .unset, .unset, .unset]) rfl) ?_
  refine own_go (fun _ => XS.lload X66.here hx rfl (hb hby at_169) rfl) ?_
  show ∃ t o, Steps p.tables e below (T66.setTop (mkF m 171 #[.val (.long xw), .second, .val (.long xd), .second, .val (.long xf), .second, .val (.long xx), .second, .val (.long xv), .second, .val (.int xs), .val (.long bw), .second, .val (.long bd), .second, .val (.long bf), .second, .val (.long bx), .second, .val (.ref b14), .val (.ref b23), .val (.int sm), .val (.int (1 : Int32)), .val (.int r1_65), .val (.int r1_66), .unset, .unset, .unset, .unset, .unset] [(.long xf)])) t ∧ _
  obtain ⟨_, _, ⟨T67, L67, k67, n67⟩, -, X67, ⟨Lc67, hQ67, l67, y67, z67⟩, st67⟩ := Jvm.LawKit.callS X66 hx (y := (⟨"com/example/libtardy/libtardy/QueueCountsToStringPinLaw", "digit", "(J)I"⟩ : MethodName)) hown (mvT hZ w_200) (mvT hZ w_201) (mvT hZ w_202) (mvT hZ w_203) (by decide) (backOf (W := 0) (rmDig l Z a0 hw [] xf T54.heap n0 zl62 F60) hZ w_203 w_202 (by decide) (by decide)) (g := (mkF m 171 #[.val (.long xw), .second, .val (.long xd), .second, .val (.long xf), .second, .val (.long xx), .second, .val (.long xv), .second, .val (.int xs), .val (.long bw), .second, .val (.long bd), .second, .val (.long bf), .second, .val (.long bx), .second, .val (.ref b14), .val (.ref b23), .val (.int sm), .val (.int (1 : Int32)), .val (.int r1_65), .val (.int r1_66), .unset, .unset, .unset, .unset, .unset] [(.long xf)])) rfl (by rw [hml]; rfl) (argsL := [(.long xf)]) (rest := []) (lenOf pd__28J_29I rfl) rfl (by show 2 * 0 + _ ≤ _; exact Nat.le_of_eq rfl) (hb hby at_171) (fun _ _ => ⟨rfl, e66, (by decide : 46 + 0 ≤ _), (by decide : 3012 + 0 ≤ _)⟩)
  dsimp only [Pt.U, Pt.locs, Pt.cells, Pt.slots] at X67 l67 y67 z67 st67 hQ67
  rw [l67, y67, z67] at X67
  obtain ⟨r1_67, rfl, Nq67, e67, H67_0⟩ := hQ67
  have N67 := Fr.app N66 Nq67
  refine own_go st67 ?_
  refine own_go (fun _ => XS.istore X67.here hx rfl (hb hby at_174) rfl (l' := #[.val (.long xw), .second, .val (.long xd), .second, .val (.long xf), .second, .val (.long xx), .second, .val (.long xv), .second, .val (.int xs), .val (.long bw), .second, .val (.long bd), .second, .val (.long bf), .second, .val (.long bx), .second, .val (.ref b14), .val (.ref b23), .val (.int sm), .val (.int (1 : Int32)), .val (.int r1_65), .val (.int r1_66), .val (.int r1_67), .unset, .unset, .unset, .unset]) rfl) ?_
  refine own_go (fun _ => XS.lload X67.here hx rfl (hb hby at_176) rfl) ?_
  show ∃ t o, Steps p.tables e below (T67.setTop (mkF m 178 #[.val (.long xw), .second, .val (.long xd), .second, .val (.long xf), .second, .val (.long xx), .second, .val (.long xv), .second, .val (.int xs), .val (.long bw), .second, .val (.long bd), .second, .val (.long bf), .second, .val (.long bx), .second, .val (.ref b14), .val (.ref b23), .val (.int sm), .val (.int (1 : Int32)), .val (.int r1_65), .val (.int r1_66), .val (.int r1_67), .unset, .unset, .unset, .unset] [(.long xx)])) t ∧ _
  obtain ⟨_, _, ⟨T68, L68, k68, n68⟩, -, X68, ⟨Lc68, hQ68, l68, y68, z68⟩, st68⟩ := Jvm.LawKit.callS X67 hx (y := (⟨"com/example/libtardy/libtardy/QueueCountsToStringPinLaw", "digit", "(J)I"⟩ : MethodName)) hown (mvT hZ w_200) (mvT hZ w_201) (mvT hZ w_202) (mvT hZ w_203) (by decide) (backOf (W := 0) (rmDig l Z a0 hw [] xx T54.heap n0 zl62 F60) hZ w_203 w_202 (by decide) (by decide)) (g := (mkF m 178 #[.val (.long xw), .second, .val (.long xd), .second, .val (.long xf), .second, .val (.long xx), .second, .val (.long xv), .second, .val (.int xs), .val (.long bw), .second, .val (.long bd), .second, .val (.long bf), .second, .val (.long bx), .second, .val (.ref b14), .val (.ref b23), .val (.int sm), .val (.int (1 : Int32)), .val (.int r1_65), .val (.int r1_66), .val (.int r1_67), .unset, .unset, .unset, .unset] [(.long xx)])) rfl (by rw [hml]; rfl) (argsL := [(.long xx)]) (rest := []) (lenOf pd__28J_29I rfl) rfl (by show 2 * 0 + _ ≤ _; exact Nat.le_of_eq rfl) (hb hby at_178) (fun _ _ => ⟨rfl, e67, (by decide : 46 + 0 ≤ _), (by decide : 3012 + 0 ≤ _)⟩)
  dsimp only [Pt.U, Pt.locs, Pt.cells, Pt.slots] at X68 l68 y68 z68 st68 hQ68
  rw [l68, y68, z68] at X68
  obtain ⟨r1_68, rfl, Nq68, e68, H68_0⟩ := hQ68
  have N68 := Fr.app N67 Nq68
  refine own_go st68 ?_
  refine own_go (fun _ => XS.istore X68.here hx rfl (hb hby at_181) rfl (l' := #[.val (.long xw), .second, .val (.long xd), .second, .val (.long xf), .second, .val (.long xx), .second, .val (.long xv), .second, .val (.int xs), .val (.long bw), .second, .val (.long bd), .second, .val (.long bf), .second, .val (.long bx), .second, .val (.ref b14), .val (.ref b23), .val (.int sm), .val (.int (1 : Int32)), .val (.int r1_65), .val (.int r1_66), .val (.int r1_67), .val (.int r1_68), .unset, .unset, .unset]) rfl) ?_
  show ∃ t o, Steps p.tables e below (T68.setTop (mkF m 183 #[.val (.long xw), .second, .val (.long xd), .second, .val (.long xf), .second, .val (.long xx), .second, .val (.long xv), .second, .val (.int xs), .val (.long bw), .second, .val (.long bd), .second, .val (.long bf), .second, .val (.long bx), .second, .val (.ref b14), .val (.ref b23), .val (.int sm), .val (.int (1 : Int32)), .val (.int r1_65), .val (.int r1_66), .val (.int r1_67), .val (.int r1_68), .unset, .unset, .unset] [])) t ∧ _
  obtain ⟨T69, h69, X69, e69, E69, A69, D69, -, st69⟩ := newO X68 hx hZ hown w_0 w_1 w_2 e68 (g := (mkF m 183 #[.val (.long xw), .second, .val (.long xd), .second, .val (.long xf), .second, .val (.long xx), .second, .val (.long xv), .second, .val (.int xs), .val (.long bw), .second, .val (.long bd), .second, .val (.long bf), .second, .val (.long bx), .second, .val (.ref b14), .val (.ref b23), .val (.int sm), .val (.int (1 : Int32)), .val (.int r1_65), .val (.int r1_66), .val (.int r1_67), .val (.int r1_68), .unset, .unset, .unset] [])) rfl (hb hby at_183) (by decide) (by decide)
  obtain ⟨b69, g69⟩ : ∃ z, z = T54.heap.size := ⟨_, rfl⟩
  rw [← g69] at A69 D69 st69
  refine own_go st69 ?_
  have le_69 : T54.heap.size ≤ h69.size := E69.1
  have lt_b69 : b69 < h69.size := A69.lt
  have F_waiting_b69 : Fld Z h69 b69 "com/example/libtardy/libtardy/QueueCounts" "waiting" "J" (.long (0 : Int64)) := D69 (Or.inr w_10) (ty := .long) (by decide)
  have F_due_b69 : Fld Z h69 b69 "com/example/libtardy/libtardy/QueueCounts" "due" "J" (.long (0 : Int64)) := D69 (Or.inr w_12) (ty := .long) (by decide)
  have F_inFlight_b69 : Fld Z h69 b69 "com/example/libtardy/libtardy/QueueCounts" "inFlight" "J" (.long (0 : Int64)) := D69 (Or.inr w_14) (ty := .long) (by decide)
  have F_dead_b69 : Fld Z h69 b69 "com/example/libtardy/libtardy/QueueCounts" "dead" "J" (.long (0 : Int64)) := D69 (Or.inr w_16) (ty := .long) (by decide)
  have K69 : Keep h0 h69 [] := Keep.ext K54 E69
  have CH70 := CHr.trans CH55 (CHr.ext E69 CH55.1)
  refine own_go (fun _ => XS.dup X69.here hx rfl (hb hby at_186) rfl rfl) ?_
  refine own_go (fun _ => XS.iload X69.here hx rfl (hb hby at_187) rfl) ?_
  refine own_go (fun _ => XS.i2l X69.here hx rfl (hb hby at_189) rfl) ?_
  refine own_go (fun _ => XS.iload X69.here hx rfl (hb hby at_190) rfl) ?_
  refine own_go (fun _ => XS.i2l X69.here hx rfl (hb hby at_192) rfl) ?_
  refine own_go (fun _ => XS.iload X69.here hx rfl (hb hby at_193) rfl) ?_
  refine own_go (fun _ => XS.i2l X69.here hx rfl (hb hby at_195) rfl) ?_
  refine own_go (fun _ => XS.iload X69.here hx rfl (hb hby at_196) rfl) ?_
  refine own_go (fun _ => XS.i2l X69.here hx rfl (hb hby at_198) rfl) ?_
  show ∃ t o, Steps p.tables e below (T69.setTop (mkF m 199 #[.val (.long xw), .second, .val (.long xd), .second, .val (.long xf), .second, .val (.long xx), .second, .val (.long xv), .second, .val (.int xs), .val (.long bw), .second, .val (.long bd), .second, .val (.long bf), .second, .val (.long bx), .second, .val (.ref b14), .val (.ref b23), .val (.int sm), .val (.int (1 : Int32)), .val (.int r1_65), .val (.int r1_66), .val (.int r1_67), .val (.int r1_68), .unset, .unset, .unset] [(.long (r1_68.toInt64)), (.long (r1_67.toInt64)), (.long (r1_66.toInt64)), (.long (r1_65.toInt64)), (.ref b69), (.ref b69)])) t ∧ _
  have F71 := (F60.ext E69)
  have ge72 : n0 ≤ b69 := by omega
  have zl73 : n0 ≤ h69.size := by omega
  have sf74 := Safe.exa (EL := own_EL) hZ.alike A69 (by decide) (by decide)
  obtain ⟨_, _, ⟨T75, L75, k75, n75⟩, -, X75, ⟨Lc75, hQ75, l75, y75, z75⟩, st75⟩ := X69.specialBack hx (y := (⟨"com/example/libtardy/libtardy/QueueCounts", "<init>", "(JJJJ)V"⟩ : MethodName)) rfl hown (mvT hZ w_3) (mvT hZ w_4) (mvT hZ w_5) (by decide) (backOf (W := 1) (rmQI l Z a0 hw [] b69 (r1_65.toInt64) (r1_66.toInt64) (r1_67.toInt64) (r1_68.toInt64) h69 n0 zl73 A69 F_waiting_b69 F_due_b69 F_inFlight_b69 F_dead_b69 F71 ge72) hZ w_5 w_2 (by decide) (by decide)) (g := (mkF m 199 #[.val (.long xw), .second, .val (.long xd), .second, .val (.long xf), .second, .val (.long xx), .second, .val (.long xv), .second, .val (.int xs), .val (.long bw), .second, .val (.long bd), .second, .val (.long bf), .second, .val (.long bx), .second, .val (.ref b14), .val (.ref b23), .val (.int sm), .val (.int (1 : Int32)), .val (.int r1_65), .val (.int r1_66), .val (.int r1_67), .val (.int r1_68), .unset, .unset, .unset] [(.long (r1_68.toInt64)), (.long (r1_67.toInt64)), (.long (r1_66.toInt64)), (.long (r1_65.toInt64)), (.ref b69), (.ref b69)])) rfl (by rw [hml]; rfl) (Steps.refl _) (a := b69) (argsL := [(.long (r1_65.toInt64)), (.long (r1_66.toInt64)), (.long (r1_67.toInt64)), (.long (r1_68.toInt64))]) (rest := [(.ref b69)]) (lenOf pd__28JJJJ_29V rfl) rfl (by show 2 * 0 + _ ≤ _; exact Nat.le_of_eq rfl) (hb hby at_199) (fun _ _ => ⟨rfl, e69, (by decide : 47 + 0 ≤ _), (by decide : 3016 + 0 ≤ _)⟩)
  dsimp only [Pt.U, Pt.locs, Pt.cells, Pt.slots] at X75 l75 y75 z75 st75 hQ75
  rw [l75, y75, z75] at X75
  obtain ⟨rfl, Nq75, Kp75, G75_0, G75_1, G75_2, G75_3, G75_4⟩ := hQ75
  have N75 := Fr.app N68 Nq75
  refine own_goT st75 ?_
  have le_75 : h69.size ≤ T75.heap.size := Kp75.1
  have sz76 : h0.size ≤ b69 := by omega
  have K75 : Keep h0 T75.heap [] := Keep.trans K69 Kp75 (allS (Or.inr sz76) all0)
  have CH77 := CHr.trans CH70 (CHr.keep Kp75 (allS sf74 all0) CH70.1)
  refine own_go (fun _ => XS.astore X75.here hx rfl (hb hby at_202) rfl rfl (l' := #[.val (.long xw), .second, .val (.long xd), .second, .val (.long xf), .second, .val (.long xx), .second, .val (.long xv), .second, .val (.int xs), .val (.long bw), .second, .val (.long bd), .second, .val (.long bf), .second, .val (.long bx), .second, .val (.ref b14), .val (.ref b23), .val (.int sm), .val (.int (1 : Int32)), .val (.int r1_65), .val (.int r1_66), .val (.int r1_67), .val (.int r1_68), .val (.ref b69), .unset, .unset]) rfl) ?_
  refine own_go (fun _ => XS.bipush X75.here hx rfl (hb hby at_204)) ?_
  show ∃ t o, Steps p.tables e below (T75.setTop (mkF m 206 #[.val (.long xw), .second, .val (.long xd), .second, .val (.long xf), .second, .val (.long xx), .second, .val (.long xv), .second, .val (.int xs), .val (.long bw), .second, .val (.long bd), .second, .val (.long bf), .second, .val (.long bx), .second, .val (.ref b14), .val (.ref b23), .val (.int sm), .val (.int (1 : Int32)), .val (.int r1_65), .val (.int r1_66), .val (.int r1_67), .val (.int r1_68), .val (.ref b69), .unset, .unset] [(.int (49 : Int32))])) t ∧ _
  obtain ⟨T78, h78, k78, X78, e78, E78, A78, st78⟩ := newP (aty := .char) X75 hx hZ (hw _ (List.mem_of_getElem? (i := 205) rfl)) rfl (g := (mkF m 206 #[.val (.long xw), .second, .val (.long xd), .second, .val (.long xf), .second, .val (.long xx), .second, .val (.long xv), .second, .val (.int xs), .val (.long bw), .second, .val (.long bd), .second, .val (.long bf), .second, .val (.long bx), .second, .val (.ref b14), .val (.ref b23), .val (.int sm), .val (.int (1 : Int32)), .val (.int r1_65), .val (.int r1_66), .val (.int r1_67), .val (.int r1_68), .val (.ref b69), .unset, .unset] [(.int (49 : Int32))])) rfl (hb hby at_206) rfl (by decide) (cap := 49) (by decide) (by decide) (by decide) (by decide)
  obtain ⟨b78, g78⟩ : ∃ z, z = T75.heap.size := ⟨_, rfl⟩
  rw [← g78] at A78 st78
  refine own_go st78 ?_
  have le_78 : T75.heap.size ≤ h78.size := E78.1
  have lt_b78 : b78 < h78.size := A78.lt
  have V_b78 : Arv Z h78 b78 k78 .char (49 : Int32) [(.int (0 : Int32)), (.int (0 : Int32)), (.int (0 : Int32)), (.int (0 : Int32)), (.int (0 : Int32)), (.int (0 : Int32)), (.int (0 : Int32)), (.int (0 : Int32)), (.int (0 : Int32)), (.int (0 : Int32)), (.int (0 : Int32)), (.int (0 : Int32)), (.int (0 : Int32)), (.int (0 : Int32)), (.int (0 : Int32)), (.int (0 : Int32)), (.int (0 : Int32)), (.int (0 : Int32)), (.int (0 : Int32)), (.int (0 : Int32)), (.int (0 : Int32)), (.int (0 : Int32)), (.int (0 : Int32)), (.int (0 : Int32)), (.int (0 : Int32)), (.int (0 : Int32)), (.int (0 : Int32)), (.int (0 : Int32)), (.int (0 : Int32)), (.int (0 : Int32)), (.int (0 : Int32)), (.int (0 : Int32)), (.int (0 : Int32)), (.int (0 : Int32)), (.int (0 : Int32)), (.int (0 : Int32)), (.int (0 : Int32)), (.int (0 : Int32)), (.int (0 : Int32)), (.int (0 : Int32)), (.int (0 : Int32)), (.int (0 : Int32)), (.int (0 : Int32)), (.int (0 : Int32)), (.int (0 : Int32)), (.int (0 : Int32)), (.int (0 : Int32)), (.int (0 : Int32)), (.int (0 : Int32))] (.int (0 : Int32)) := (Arv.new A78 (by decide)).pad (pad_rep [] (.int (0 : Int32)) 49)
  have K78 : Keep h0 h78 [] := Keep.ext K75 E78
  have CH79 := CHr.trans CH77 (CHr.ext E78 CH77.1)
  refine own_go (fun _ => XS.dup X78.here hx rfl (hb hby at_208) rfl rfl) ?_
  refine own_go (fun _ => XS.iconst X78.here hx rfl (hb hby at_209)) ?_
  refine own_go (fun _ => XS.bipush X78.here hx rfl (hb hby at_210)) ?_
  obtain ⟨cl80, Ar80, q80, S80, N80, H80, G80⟩ := id V_b78
  have sf81 := Safe.arr (EL := own_EL) hZ.alike Ar80 (by decide)
  have hin80 : ¬ ((0 : Int32) < 0 ∨ cl80.slots.size ≤ ((0 : Int32)).toNatClampNeg) := inb_of S80 ⟨by decide, by decide⟩
  obtain ⟨T82, h82, X82, e82, W82, st82⟩ := stC X78 hx hZ e78 Ar80 (j := (0 : Int32)) hin80 (g := (mkF m 212 #[.val (.long xw), .second, .val (.long xd), .second, .val (.long xf), .second, .val (.long xx), .second, .val (.long xv), .second, .val (.int xs), .val (.long bw), .second, .val (.long bd), .second, .val (.long bf), .second, .val (.long bx), .second, .val (.ref b14), .val (.ref b23), .val (.int sm), .val (.int (1 : Int32)), .val (.int r1_65), .val (.int r1_66), .val (.int r1_67), .val (.int r1_68), .val (.ref b69), .unset, .unset] [(.int (81 : Int32)), (.int (0 : Int32)), (.ref b78), (.ref b78)])) rfl rfl (hb hby at_212)
  refine own_go st82 ?_
  have CH83 := CHr.trans CH79 (CHr.wr W82 sf81 CH79.1)
  have ge84 : n0 ≤ b78 := by omega
  have le_82 : h78.size ≤ h82.size := Nat.le_of_eq W82.size.symm
  have sz85 : h0.size ≤ b78 := by omega
  have K82 : Keep h0 h82 [] := Keep.wr K78 W82 (Or.inr sz85)
  have N82 := Fr.snoc X82 N75 ge84
  have V82 : Arv Z h82 b78 k78 .char (49 : Int32) [(.int (nar .char (81 : Int32))), (.int (0 : Int32)), (.int (0 : Int32)), (.int (0 : Int32)), (.int (0 : Int32)), (.int (0 : Int32)), (.int (0 : Int32)), (.int (0 : Int32)), (.int (0 : Int32)), (.int (0 : Int32)), (.int (0 : Int32)), (.int (0 : Int32)), (.int (0 : Int32)), (.int (0 : Int32)), (.int (0 : Int32)), (.int (0 : Int32)), (.int (0 : Int32)), (.int (0 : Int32)), (.int (0 : Int32)), (.int (0 : Int32)), (.int (0 : Int32)), (.int (0 : Int32)), (.int (0 : Int32)), (.int (0 : Int32)), (.int (0 : Int32)), (.int (0 : Int32)), (.int (0 : Int32)), (.int (0 : Int32)), (.int (0 : Int32)), (.int (0 : Int32)), (.int (0 : Int32)), (.int (0 : Int32)), (.int (0 : Int32)), (.int (0 : Int32)), (.int (0 : Int32)), (.int (0 : Int32)), (.int (0 : Int32)), (.int (0 : Int32)), (.int (0 : Int32)), (.int (0 : Int32)), (.int (0 : Int32)), (.int (0 : Int32)), (.int (0 : Int32)), (.int (0 : Int32)), (.int (0 : Int32)), (.int (0 : Int32)), (.int (0 : Int32)), (.int (0 : Int32)), (.int (0 : Int32))] (.int (0 : Int32)) := Arv.set Ar80 q80 S80 N80 H80 G80 (fits_nar_char _) W82 0 rfl (Nat.le_of_ble_eq_true rfl)
  refine own_go (fun _ => XS.dup X82.here hx rfl (hb hby at_213) rfl rfl) ?_
  refine own_go (fun _ => XS.iconst X82.here hx rfl (hb hby at_214)) ?_
  refine own_go (fun _ => XS.bipush X82.here hx rfl (hb hby at_215)) ?_
  obtain ⟨cl86, Ar86, q86, S86, N86, H86, G86⟩ := id V82
  have sf87 := Safe.arr (EL := own_EL) hZ.alike Ar86 (by decide)
  have hin86 : ¬ ((1 : Int32) < 0 ∨ cl86.slots.size ≤ ((1 : Int32)).toNatClampNeg) := inb_of S86 ⟨by decide, by decide⟩
  obtain ⟨T88, h88, X88, e88, W88, st88⟩ := stC X82 hx hZ e82 Ar86 (j := (1 : Int32)) hin86 (g := (mkF m 217 #[.val (.long xw), .second, .val (.long xd), .second, .val (.long xf), .second, .val (.long xx), .second, .val (.long xv), .second, .val (.int xs), .val (.long bw), .second, .val (.long bd), .second, .val (.long bf), .second, .val (.long bx), .second, .val (.ref b14), .val (.ref b23), .val (.int sm), .val (.int (1 : Int32)), .val (.int r1_65), .val (.int r1_66), .val (.int r1_67), .val (.int r1_68), .val (.ref b69), .unset, .unset] [(.int (117 : Int32)), (.int (1 : Int32)), (.ref b78), (.ref b78)])) rfl rfl (hb hby at_217)
  refine own_go st88 ?_
  have CH89 := CHr.trans CH83 (CHr.wr W88 sf87 CH83.1)
  have le_88 : h82.size ≤ h88.size := Nat.le_of_eq W88.size.symm
  have K88 : Keep h0 h88 [] := Keep.wr K82 W88 (Or.inr sz85)
  have N88 := Fr.snoc X88 N82 ge84
  have V88 : Arv Z h88 b78 k78 .char (49 : Int32) [(.int (nar .char (81 : Int32))), (.int (nar .char (117 : Int32))), (.int (0 : Int32)), (.int (0 : Int32)), (.int (0 : Int32)), (.int (0 : Int32)), (.int (0 : Int32)), (.int (0 : Int32)), (.int (0 : Int32)), (.int (0 : Int32)), (.int (0 : Int32)), (.int (0 : Int32)), (.int (0 : Int32)), (.int (0 : Int32)), (.int (0 : Int32)), (.int (0 : Int32)), (.int (0 : Int32)), (.int (0 : Int32)), (.int (0 : Int32)), (.int (0 : Int32)), (.int (0 : Int32)), (.int (0 : Int32)), (.int (0 : Int32)), (.int (0 : Int32)), (.int (0 : Int32)), (.int (0 : Int32)), (.int (0 : Int32)), (.int (0 : Int32)), (.int (0 : Int32)), (.int (0 : Int32)), (.int (0 : Int32)), (.int (0 : Int32)), (.int (0 : Int32)), (.int (0 : Int32)), (.int (0 : Int32)), (.int (0 : Int32)), (.int (0 : Int32)), (.int (0 : Int32)), (.int (0 : Int32)), (.int (0 : Int32)), (.int (0 : Int32)), (.int (0 : Int32)), (.int (0 : Int32)), (.int (0 : Int32)), (.int (0 : Int32)), (.int (0 : Int32)), (.int (0 : Int32)), (.int (0 : Int32)), (.int (0 : Int32))] (.int (0 : Int32)) := Arv.set Ar86 q86 S86 N86 H86 G86 (fits_nar_char _) W88 1 rfl (Nat.le_of_ble_eq_true rfl)
  refine own_go (fun _ => XS.dup X88.here hx rfl (hb hby at_218) rfl rfl) ?_
  show ∃ t o, Steps p.tables e below (T88.setTop (mkF m 219 #[.val (.long xw), .second, .val (.long xd), .second, .val (.long xf), .second, .val (.long xx), .second, .val (.long xv), .second, .val (.int xs), .val (.long bw), .second, .val (.long bd), .second, .val (.long bf), .second, .val (.long bx), .second, .val (.ref b14), .val (.ref b23), .val (.int sm), .val (.int (1 : Int32)), .val (.int r1_65), .val (.int r1_66), .val (.int r1_67), .val (.int r1_68), .val (.ref b69), .unset, .unset] [(.ref b78), (.ref b78)])) t ∧ _
  refine own_go (fun _ => XS.iconst X88.here hx rfl (hb hby at_219)) ?_
  refine own_go (fun _ => XS.bipush X88.here hx rfl (hb hby at_220)) ?_
  obtain ⟨cl90, Ar90, q90, S90, N90, H90, G90⟩ := id V88
  have sf91 := Safe.arr (EL := own_EL) hZ.alike Ar90 (by decide)
  have hin90 : ¬ ((2 : Int32) < 0 ∨ cl90.slots.size ≤ ((2 : Int32)).toNatClampNeg) := inb_of S90 ⟨by decide, by decide⟩
  obtain ⟨T92, h92, X92, e92, W92, st92⟩ := stC X88 hx hZ e88 Ar90 (j := (2 : Int32)) hin90 (g := (mkF m 222 #[.val (.long xw), .second, .val (.long xd), .second, .val (.long xf), .second, .val (.long xx), .second, .val (.long xv), .second, .val (.int xs), .val (.long bw), .second, .val (.long bd), .second, .val (.long bf), .second, .val (.long bx), .second, .val (.ref b14), .val (.ref b23), .val (.int sm), .val (.int (1 : Int32)), .val (.int r1_65), .val (.int r1_66), .val (.int r1_67), .val (.int r1_68), .val (.ref b69), .unset, .unset] [(.int (101 : Int32)), (.int (2 : Int32)), (.ref b78), (.ref b78)])) rfl rfl (hb hby at_222)
  refine own_go st92 ?_
  have CH93 := CHr.trans CH89 (CHr.wr W92 sf91 CH89.1)
  have le_92 : h88.size ≤ h92.size := Nat.le_of_eq W92.size.symm
  have K92 : Keep h0 h92 [] := Keep.wr K88 W92 (Or.inr sz85)
  have N92 := Fr.snoc X92 N88 ge84
  have V92 : Arv Z h92 b78 k78 .char (49 : Int32) [(.int (nar .char (81 : Int32))), (.int (nar .char (117 : Int32))), (.int (nar .char (101 : Int32))), (.int (0 : Int32)), (.int (0 : Int32)), (.int (0 : Int32)), (.int (0 : Int32)), (.int (0 : Int32)), (.int (0 : Int32)), (.int (0 : Int32)), (.int (0 : Int32)), (.int (0 : Int32)), (.int (0 : Int32)), (.int (0 : Int32)), (.int (0 : Int32)), (.int (0 : Int32)), (.int (0 : Int32)), (.int (0 : Int32)), (.int (0 : Int32)), (.int (0 : Int32)), (.int (0 : Int32)), (.int (0 : Int32)), (.int (0 : Int32)), (.int (0 : Int32)), (.int (0 : Int32)), (.int (0 : Int32)), (.int (0 : Int32)), (.int (0 : Int32)), (.int (0 : Int32)), (.int (0 : Int32)), (.int (0 : Int32)), (.int (0 : Int32)), (.int (0 : Int32)), (.int (0 : Int32)), (.int (0 : Int32)), (.int (0 : Int32)), (.int (0 : Int32)), (.int (0 : Int32)), (.int (0 : Int32)), (.int (0 : Int32)), (.int (0 : Int32)), (.int (0 : Int32)), (.int (0 : Int32)), (.int (0 : Int32)), (.int (0 : Int32)), (.int (0 : Int32)), (.int (0 : Int32)), (.int (0 : Int32)), (.int (0 : Int32))] (.int (0 : Int32)) := Arv.set Ar90 q90 S90 N90 H90 G90 (fits_nar_char _) W92 2 rfl (Nat.le_of_ble_eq_true rfl)
  refine own_go (fun _ => XS.dup X92.here hx rfl (hb hby at_223) rfl rfl) ?_
  refine own_go (fun _ => XS.iconst X92.here hx rfl (hb hby at_224)) ?_
  refine own_go (fun _ => XS.bipush X92.here hx rfl (hb hby at_225)) ?_
  obtain ⟨cl94, Ar94, q94, S94, N94, H94, G94⟩ := id V92
  have sf95 := Safe.arr (EL := own_EL) hZ.alike Ar94 (by decide)
  have hin94 : ¬ ((3 : Int32) < 0 ∨ cl94.slots.size ≤ ((3 : Int32)).toNatClampNeg) := inb_of S94 ⟨by decide, by decide⟩
  obtain ⟨T96, h96, X96, e96, W96, st96⟩ := stC X92 hx hZ e92 Ar94 (j := (3 : Int32)) hin94 (g := (mkF m 227 #[.val (.long xw), .second, .val (.long xd), .second, .val (.long xf), .second, .val (.long xx), .second, .val (.long xv), .second, .val (.int xs), .val (.long bw), .second, .val (.long bd), .second, .val (.long bf), .second, .val (.long bx), .second, .val (.ref b14), .val (.ref b23), .val (.int sm), .val (.int (1 : Int32)), .val (.int r1_65), .val (.int r1_66), .val (.int r1_67), .val (.int r1_68), .val (.ref b69), .unset, .unset] [(.int (117 : Int32)), (.int (3 : Int32)), (.ref b78), (.ref b78)])) rfl rfl (hb hby at_227)
  refine own_go st96 ?_
  have CH97 := CHr.trans CH93 (CHr.wr W96 sf95 CH93.1)
  have le_96 : h92.size ≤ h96.size := Nat.le_of_eq W96.size.symm
  have K96 : Keep h0 h96 [] := Keep.wr K92 W96 (Or.inr sz85)
  have N96 := Fr.snoc X96 N92 ge84
  have V96 : Arv Z h96 b78 k78 .char (49 : Int32) [(.int (nar .char (81 : Int32))), (.int (nar .char (117 : Int32))), (.int (nar .char (101 : Int32))), (.int (nar .char (117 : Int32))), (.int (0 : Int32)), (.int (0 : Int32)), (.int (0 : Int32)), (.int (0 : Int32)), (.int (0 : Int32)), (.int (0 : Int32)), (.int (0 : Int32)), (.int (0 : Int32)), (.int (0 : Int32)), (.int (0 : Int32)), (.int (0 : Int32)), (.int (0 : Int32)), (.int (0 : Int32)), (.int (0 : Int32)), (.int (0 : Int32)), (.int (0 : Int32)), (.int (0 : Int32)), (.int (0 : Int32)), (.int (0 : Int32)), (.int (0 : Int32)), (.int (0 : Int32)), (.int (0 : Int32)), (.int (0 : Int32)), (.int (0 : Int32)), (.int (0 : Int32)), (.int (0 : Int32)), (.int (0 : Int32)), (.int (0 : Int32)), (.int (0 : Int32)), (.int (0 : Int32)), (.int (0 : Int32)), (.int (0 : Int32)), (.int (0 : Int32)), (.int (0 : Int32)), (.int (0 : Int32)), (.int (0 : Int32)), (.int (0 : Int32)), (.int (0 : Int32)), (.int (0 : Int32)), (.int (0 : Int32)), (.int (0 : Int32)), (.int (0 : Int32)), (.int (0 : Int32)), (.int (0 : Int32)), (.int (0 : Int32))] (.int (0 : Int32)) := Arv.set Ar94 q94 S94 N94 H94 G94 (fits_nar_char _) W96 3 rfl (Nat.le_of_ble_eq_true rfl)
  refine own_go (fun _ => XS.dup X96.here hx rfl (hb hby at_228) rfl rfl) ?_
  refine own_go (fun _ => XS.iconst X96.here hx rfl (hb hby at_229)) ?_
  refine own_go (fun _ => XS.bipush X96.here hx rfl (hb hby at_230)) ?_
  show ∃ t o, Steps p.tables e below (T96.setTop (mkF m 232 #[.val (.long xw), .second, .val (.long xd), .second, .val (.long xf), .second, .val (.long xx), .second, .val (.long xv), .second, .val (.int xs), .val (.long bw), .second, .val (.long bd), .second, .val (.long bf), .second, .val (.long bx), .second, .val (.ref b14), .val (.ref b23), .val (.int sm), .val (.int (1 : Int32)), .val (.int r1_65), .val (.int r1_66), .val (.int r1_67), .val (.int r1_68), .val (.ref b69), .unset, .unset] [(.int (101 : Int32)), (.int (4 : Int32)), (.ref b78), (.ref b78)])) t ∧ _
  obtain ⟨cl98, Ar98, q98, S98, N98, H98, G98⟩ := id V96
  have sf99 := Safe.arr (EL := own_EL) hZ.alike Ar98 (by decide)
  have hin98 : ¬ ((4 : Int32) < 0 ∨ cl98.slots.size ≤ ((4 : Int32)).toNatClampNeg) := inb_of S98 ⟨by decide, by decide⟩
  obtain ⟨T100, h100, X100, e100, W100, st100⟩ := stC X96 hx hZ e96 Ar98 (j := (4 : Int32)) hin98 (g := (mkF m 232 #[.val (.long xw), .second, .val (.long xd), .second, .val (.long xf), .second, .val (.long xx), .second, .val (.long xv), .second, .val (.int xs), .val (.long bw), .second, .val (.long bd), .second, .val (.long bf), .second, .val (.long bx), .second, .val (.ref b14), .val (.ref b23), .val (.int sm), .val (.int (1 : Int32)), .val (.int r1_65), .val (.int r1_66), .val (.int r1_67), .val (.int r1_68), .val (.ref b69), .unset, .unset] [(.int (101 : Int32)), (.int (4 : Int32)), (.ref b78), (.ref b78)])) rfl rfl (hb hby at_232)
  refine own_go st100 ?_
  have CH101 := CHr.trans CH97 (CHr.wr W100 sf99 CH97.1)
  have le_100 : h96.size ≤ h100.size := Nat.le_of_eq W100.size.symm
  have K100 : Keep h0 h100 [] := Keep.wr K96 W100 (Or.inr sz85)
  have N100 := Fr.snoc X100 N96 ge84
  have V100 : Arv Z h100 b78 k78 .char (49 : Int32) [(.int (nar .char (81 : Int32))), (.int (nar .char (117 : Int32))), (.int (nar .char (101 : Int32))), (.int (nar .char (117 : Int32))), (.int (nar .char (101 : Int32))), (.int (0 : Int32)), (.int (0 : Int32)), (.int (0 : Int32)), (.int (0 : Int32)), (.int (0 : Int32)), (.int (0 : Int32)), (.int (0 : Int32)), (.int (0 : Int32)), (.int (0 : Int32)), (.int (0 : Int32)), (.int (0 : Int32)), (.int (0 : Int32)), (.int (0 : Int32)), (.int (0 : Int32)), (.int (0 : Int32)), (.int (0 : Int32)), (.int (0 : Int32)), (.int (0 : Int32)), (.int (0 : Int32)), (.int (0 : Int32)), (.int (0 : Int32)), (.int (0 : Int32)), (.int (0 : Int32)), (.int (0 : Int32)), (.int (0 : Int32)), (.int (0 : Int32)), (.int (0 : Int32)), (.int (0 : Int32)), (.int (0 : Int32)), (.int (0 : Int32)), (.int (0 : Int32)), (.int (0 : Int32)), (.int (0 : Int32)), (.int (0 : Int32)), (.int (0 : Int32)), (.int (0 : Int32)), (.int (0 : Int32)), (.int (0 : Int32)), (.int (0 : Int32)), (.int (0 : Int32)), (.int (0 : Int32)), (.int (0 : Int32)), (.int (0 : Int32)), (.int (0 : Int32))] (.int (0 : Int32)) := Arv.set Ar98 q98 S98 N98 H98 G98 (fits_nar_char _) W100 4 rfl (Nat.le_of_ble_eq_true rfl)
  refine own_go (fun _ => XS.dup X100.here hx rfl (hb hby at_233) rfl rfl) ?_
  refine own_go (fun _ => XS.iconst X100.here hx rfl (hb hby at_234)) ?_
  refine own_go (fun _ => XS.bipush X100.here hx rfl (hb hby at_235)) ?_
  obtain ⟨cl102, Ar102, q102, S102, N102, H102, G102⟩ := id V100
  have sf103 := Safe.arr (EL := own_EL) hZ.alike Ar102 (by decide)
  have hin102 : ¬ ((5 : Int32) < 0 ∨ cl102.slots.size ≤ ((5 : Int32)).toNatClampNeg) := inb_of S102 ⟨by decide, by decide⟩
  obtain ⟨T104, h104, X104, e104, W104, st104⟩ := stC X100 hx hZ e100 Ar102 (j := (5 : Int32)) hin102 (g := (mkF m 237 #[.val (.long xw), .second, .val (.long xd), .second, .val (.long xf), .second, .val (.long xx), .second, .val (.long xv), .second, .val (.int xs), .val (.long bw), .second, .val (.long bd), .second, .val (.long bf), .second, .val (.long bx), .second, .val (.ref b14), .val (.ref b23), .val (.int sm), .val (.int (1 : Int32)), .val (.int r1_65), .val (.int r1_66), .val (.int r1_67), .val (.int r1_68), .val (.ref b69), .unset, .unset] [(.int (67 : Int32)), (.int (5 : Int32)), (.ref b78), (.ref b78)])) rfl rfl (hb hby at_237)
  refine own_go st104 ?_
  have CH105 := CHr.trans CH101 (CHr.wr W104 sf103 CH101.1)
  have le_104 : h100.size ≤ h104.size := Nat.le_of_eq W104.size.symm
  have K104 : Keep h0 h104 [] := Keep.wr K100 W104 (Or.inr sz85)
  have N104 := Fr.snoc X104 N100 ge84
  have V104 : Arv Z h104 b78 k78 .char (49 : Int32) [(.int (nar .char (81 : Int32))), (.int (nar .char (117 : Int32))), (.int (nar .char (101 : Int32))), (.int (nar .char (117 : Int32))), (.int (nar .char (101 : Int32))), (.int (nar .char (67 : Int32))), (.int (0 : Int32)), (.int (0 : Int32)), (.int (0 : Int32)), (.int (0 : Int32)), (.int (0 : Int32)), (.int (0 : Int32)), (.int (0 : Int32)), (.int (0 : Int32)), (.int (0 : Int32)), (.int (0 : Int32)), (.int (0 : Int32)), (.int (0 : Int32)), (.int (0 : Int32)), (.int (0 : Int32)), (.int (0 : Int32)), (.int (0 : Int32)), (.int (0 : Int32)), (.int (0 : Int32)), (.int (0 : Int32)), (.int (0 : Int32)), (.int (0 : Int32)), (.int (0 : Int32)), (.int (0 : Int32)), (.int (0 : Int32)), (.int (0 : Int32)), (.int (0 : Int32)), (.int (0 : Int32)), (.int (0 : Int32)), (.int (0 : Int32)), (.int (0 : Int32)), (.int (0 : Int32)), (.int (0 : Int32)), (.int (0 : Int32)), (.int (0 : Int32)), (.int (0 : Int32)), (.int (0 : Int32)), (.int (0 : Int32)), (.int (0 : Int32)), (.int (0 : Int32)), (.int (0 : Int32)), (.int (0 : Int32)), (.int (0 : Int32)), (.int (0 : Int32))] (.int (0 : Int32)) := Arv.set Ar102 q102 S102 N102 H102 G102 (fits_nar_char _) W104 5 rfl (Nat.le_of_ble_eq_true rfl)
  refine own_go (fun _ => XS.dup X104.here hx rfl (hb hby at_238) rfl rfl) ?_
  refine own_go (fun _ => XS.bipush X104.here hx rfl (hb hby at_239)) ?_
  refine own_go (fun _ => XS.bipush X104.here hx rfl (hb hby at_241)) ?_
  obtain ⟨cl106, Ar106, q106, S106, N106, H106, G106⟩ := id V104
  have sf107 := Safe.arr (EL := own_EL) hZ.alike Ar106 (by decide)
  have hin106 : ¬ ((6 : Int32) < 0 ∨ cl106.slots.size ≤ ((6 : Int32)).toNatClampNeg) := inb_of S106 ⟨by decide, by decide⟩
  obtain ⟨T108, h108, X108, e108, W108, st108⟩ := stC X104 hx hZ e104 Ar106 (j := (6 : Int32)) hin106 (g := (mkF m 243 #[.val (.long xw), .second, .val (.long xd), .second, .val (.long xf), .second, .val (.long xx), .second, .val (.long xv), .second, .val (.int xs), .val (.long bw), .second, .val (.long bd), .second, .val (.long bf), .second, .val (.long bx), .second, .val (.ref b14), .val (.ref b23), .val (.int sm), .val (.int (1 : Int32)), .val (.int r1_65), .val (.int r1_66), .val (.int r1_67), .val (.int r1_68), .val (.ref b69), .unset, .unset] [(.int (111 : Int32)), (.int (6 : Int32)), (.ref b78), (.ref b78)])) rfl rfl (hb hby at_243)
  refine own_go st108 ?_
  have CH109 := CHr.trans CH105 (CHr.wr W108 sf107 CH105.1)
  have le_108 : h104.size ≤ h108.size := Nat.le_of_eq W108.size.symm
  have K108 : Keep h0 h108 [] := Keep.wr K104 W108 (Or.inr sz85)
  have N108 := Fr.snoc X108 N104 ge84
  have V108 : Arv Z h108 b78 k78 .char (49 : Int32) [(.int (nar .char (81 : Int32))), (.int (nar .char (117 : Int32))), (.int (nar .char (101 : Int32))), (.int (nar .char (117 : Int32))), (.int (nar .char (101 : Int32))), (.int (nar .char (67 : Int32))), (.int (nar .char (111 : Int32))), (.int (0 : Int32)), (.int (0 : Int32)), (.int (0 : Int32)), (.int (0 : Int32)), (.int (0 : Int32)), (.int (0 : Int32)), (.int (0 : Int32)), (.int (0 : Int32)), (.int (0 : Int32)), (.int (0 : Int32)), (.int (0 : Int32)), (.int (0 : Int32)), (.int (0 : Int32)), (.int (0 : Int32)), (.int (0 : Int32)), (.int (0 : Int32)), (.int (0 : Int32)), (.int (0 : Int32)), (.int (0 : Int32)), (.int (0 : Int32)), (.int (0 : Int32)), (.int (0 : Int32)), (.int (0 : Int32)), (.int (0 : Int32)), (.int (0 : Int32)), (.int (0 : Int32)), (.int (0 : Int32)), (.int (0 : Int32)), (.int (0 : Int32)), (.int (0 : Int32)), (.int (0 : Int32)), (.int (0 : Int32)), (.int (0 : Int32)), (.int (0 : Int32)), (.int (0 : Int32)), (.int (0 : Int32)), (.int (0 : Int32)), (.int (0 : Int32)), (.int (0 : Int32)), (.int (0 : Int32)), (.int (0 : Int32)), (.int (0 : Int32))] (.int (0 : Int32)) := Arv.set Ar106 q106 S106 N106 H106 G106 (fits_nar_char _) W108 6 rfl (Nat.le_of_ble_eq_true rfl)
  refine own_go (fun _ => XS.dup X108.here hx rfl (hb hby at_244) rfl rfl) ?_
  show ∃ t o, Steps p.tables e below (T108.setTop (mkF m 245 #[.val (.long xw), .second, .val (.long xd), .second, .val (.long xf), .second, .val (.long xx), .second, .val (.long xv), .second, .val (.int xs), .val (.long bw), .second, .val (.long bd), .second, .val (.long bf), .second, .val (.long bx), .second, .val (.ref b14), .val (.ref b23), .val (.int sm), .val (.int (1 : Int32)), .val (.int r1_65), .val (.int r1_66), .val (.int r1_67), .val (.int r1_68), .val (.ref b69), .unset, .unset] [(.ref b78), (.ref b78)])) t ∧ _
  refine own_go (fun _ => XS.bipush X108.here hx rfl (hb hby at_245)) ?_
  refine own_go (fun _ => XS.bipush X108.here hx rfl (hb hby at_247)) ?_
  obtain ⟨cl110, Ar110, q110, S110, N110, H110, G110⟩ := id V108
  have sf111 := Safe.arr (EL := own_EL) hZ.alike Ar110 (by decide)
  have hin110 : ¬ ((7 : Int32) < 0 ∨ cl110.slots.size ≤ ((7 : Int32)).toNatClampNeg) := inb_of S110 ⟨by decide, by decide⟩
  obtain ⟨T112, h112, X112, e112, W112, st112⟩ := stC X108 hx hZ e108 Ar110 (j := (7 : Int32)) hin110 (g := (mkF m 249 #[.val (.long xw), .second, .val (.long xd), .second, .val (.long xf), .second, .val (.long xx), .second, .val (.long xv), .second, .val (.int xs), .val (.long bw), .second, .val (.long bd), .second, .val (.long bf), .second, .val (.long bx), .second, .val (.ref b14), .val (.ref b23), .val (.int sm), .val (.int (1 : Int32)), .val (.int r1_65), .val (.int r1_66), .val (.int r1_67), .val (.int r1_68), .val (.ref b69), .unset, .unset] [(.int (117 : Int32)), (.int (7 : Int32)), (.ref b78), (.ref b78)])) rfl rfl (hb hby at_249)
  refine own_go st112 ?_
  have CH113 := CHr.trans CH109 (CHr.wr W112 sf111 CH109.1)
  have le_112 : h108.size ≤ h112.size := Nat.le_of_eq W112.size.symm
  have K112 : Keep h0 h112 [] := Keep.wr K108 W112 (Or.inr sz85)
  have N112 := Fr.snoc X112 N108 ge84
  have V112 : Arv Z h112 b78 k78 .char (49 : Int32) [(.int (nar .char (81 : Int32))), (.int (nar .char (117 : Int32))), (.int (nar .char (101 : Int32))), (.int (nar .char (117 : Int32))), (.int (nar .char (101 : Int32))), (.int (nar .char (67 : Int32))), (.int (nar .char (111 : Int32))), (.int (nar .char (117 : Int32))), (.int (0 : Int32)), (.int (0 : Int32)), (.int (0 : Int32)), (.int (0 : Int32)), (.int (0 : Int32)), (.int (0 : Int32)), (.int (0 : Int32)), (.int (0 : Int32)), (.int (0 : Int32)), (.int (0 : Int32)), (.int (0 : Int32)), (.int (0 : Int32)), (.int (0 : Int32)), (.int (0 : Int32)), (.int (0 : Int32)), (.int (0 : Int32)), (.int (0 : Int32)), (.int (0 : Int32)), (.int (0 : Int32)), (.int (0 : Int32)), (.int (0 : Int32)), (.int (0 : Int32)), (.int (0 : Int32)), (.int (0 : Int32)), (.int (0 : Int32)), (.int (0 : Int32)), (.int (0 : Int32)), (.int (0 : Int32)), (.int (0 : Int32)), (.int (0 : Int32)), (.int (0 : Int32)), (.int (0 : Int32)), (.int (0 : Int32)), (.int (0 : Int32)), (.int (0 : Int32)), (.int (0 : Int32)), (.int (0 : Int32)), (.int (0 : Int32)), (.int (0 : Int32)), (.int (0 : Int32)), (.int (0 : Int32))] (.int (0 : Int32)) := Arv.set Ar110 q110 S110 N110 H110 G110 (fits_nar_char _) W112 7 rfl (Nat.le_of_ble_eq_true rfl)
  refine own_go (fun _ => XS.dup X112.here hx rfl (hb hby at_250) rfl rfl) ?_
  refine own_go (fun _ => XS.bipush X112.here hx rfl (hb hby at_251)) ?_
  refine own_go (fun _ => XS.bipush X112.here hx rfl (hb hby at_253)) ?_
  obtain ⟨cl114, Ar114, q114, S114, N114, H114, G114⟩ := id V112
  have sf115 := Safe.arr (EL := own_EL) hZ.alike Ar114 (by decide)
  have hin114 : ¬ ((8 : Int32) < 0 ∨ cl114.slots.size ≤ ((8 : Int32)).toNatClampNeg) := inb_of S114 ⟨by decide, by decide⟩
  obtain ⟨T116, h116, X116, e116, W116, st116⟩ := stC X112 hx hZ e112 Ar114 (j := (8 : Int32)) hin114 (g := (mkF m 255 #[.val (.long xw), .second, .val (.long xd), .second, .val (.long xf), .second, .val (.long xx), .second, .val (.long xv), .second, .val (.int xs), .val (.long bw), .second, .val (.long bd), .second, .val (.long bf), .second, .val (.long bx), .second, .val (.ref b14), .val (.ref b23), .val (.int sm), .val (.int (1 : Int32)), .val (.int r1_65), .val (.int r1_66), .val (.int r1_67), .val (.int r1_68), .val (.ref b69), .unset, .unset] [(.int (110 : Int32)), (.int (8 : Int32)), (.ref b78), (.ref b78)])) rfl rfl (hb hby at_255)
  refine own_go st116 ?_
  have CH117 := CHr.trans CH113 (CHr.wr W116 sf115 CH113.1)
  have le_116 : h112.size ≤ h116.size := Nat.le_of_eq W116.size.symm
  have K116 : Keep h0 h116 [] := Keep.wr K112 W116 (Or.inr sz85)
  have N116 := Fr.snoc X116 N112 ge84
  have V116 : Arv Z h116 b78 k78 .char (49 : Int32) [(.int (nar .char (81 : Int32))), (.int (nar .char (117 : Int32))), (.int (nar .char (101 : Int32))), (.int (nar .char (117 : Int32))), (.int (nar .char (101 : Int32))), (.int (nar .char (67 : Int32))), (.int (nar .char (111 : Int32))), (.int (nar .char (117 : Int32))), (.int (nar .char (110 : Int32))), (.int (0 : Int32)), (.int (0 : Int32)), (.int (0 : Int32)), (.int (0 : Int32)), (.int (0 : Int32)), (.int (0 : Int32)), (.int (0 : Int32)), (.int (0 : Int32)), (.int (0 : Int32)), (.int (0 : Int32)), (.int (0 : Int32)), (.int (0 : Int32)), (.int (0 : Int32)), (.int (0 : Int32)), (.int (0 : Int32)), (.int (0 : Int32)), (.int (0 : Int32)), (.int (0 : Int32)), (.int (0 : Int32)), (.int (0 : Int32)), (.int (0 : Int32)), (.int (0 : Int32)), (.int (0 : Int32)), (.int (0 : Int32)), (.int (0 : Int32)), (.int (0 : Int32)), (.int (0 : Int32)), (.int (0 : Int32)), (.int (0 : Int32)), (.int (0 : Int32)), (.int (0 : Int32)), (.int (0 : Int32)), (.int (0 : Int32)), (.int (0 : Int32)), (.int (0 : Int32)), (.int (0 : Int32)), (.int (0 : Int32)), (.int (0 : Int32)), (.int (0 : Int32)), (.int (0 : Int32))] (.int (0 : Int32)) := Arv.set Ar114 q114 S114 N114 H114 G114 (fits_nar_char _) W116 8 rfl (Nat.le_of_ble_eq_true rfl)
  refine own_go (fun _ => XS.dup X116.here hx rfl (hb hby at_256) rfl rfl) ?_
  refine own_go (fun _ => XS.bipush X116.here hx rfl (hb hby at_257)) ?_
  refine own_go (fun _ => XS.bipush X116.here hx rfl (hb hby at_259)) ?_
  show ∃ t o, Steps p.tables e below (T116.setTop (mkF m 261 #[.val (.long xw), .second, .val (.long xd), .second, .val (.long xf), .second, .val (.long xx), .second, .val (.long xv), .second, .val (.int xs), .val (.long bw), .second, .val (.long bd), .second, .val (.long bf), .second, .val (.long bx), .second, .val (.ref b14), .val (.ref b23), .val (.int sm), .val (.int (1 : Int32)), .val (.int r1_65), .val (.int r1_66), .val (.int r1_67), .val (.int r1_68), .val (.ref b69), .unset, .unset] [(.int (116 : Int32)), (.int (9 : Int32)), (.ref b78), (.ref b78)])) t ∧ _
  obtain ⟨cl118, Ar118, q118, S118, N118, H118, G118⟩ := id V116
  have sf119 := Safe.arr (EL := own_EL) hZ.alike Ar118 (by decide)
  have hin118 : ¬ ((9 : Int32) < 0 ∨ cl118.slots.size ≤ ((9 : Int32)).toNatClampNeg) := inb_of S118 ⟨by decide, by decide⟩
  obtain ⟨T120, h120, X120, e120, W120, st120⟩ := stC X116 hx hZ e116 Ar118 (j := (9 : Int32)) hin118 (g := (mkF m 261 #[.val (.long xw), .second, .val (.long xd), .second, .val (.long xf), .second, .val (.long xx), .second, .val (.long xv), .second, .val (.int xs), .val (.long bw), .second, .val (.long bd), .second, .val (.long bf), .second, .val (.long bx), .second, .val (.ref b14), .val (.ref b23), .val (.int sm), .val (.int (1 : Int32)), .val (.int r1_65), .val (.int r1_66), .val (.int r1_67), .val (.int r1_68), .val (.ref b69), .unset, .unset] [(.int (116 : Int32)), (.int (9 : Int32)), (.ref b78), (.ref b78)])) rfl rfl (hb hby at_261)
  refine own_go st120 ?_
  have CH121 := CHr.trans CH117 (CHr.wr W120 sf119 CH117.1)
  have le_120 : h116.size ≤ h120.size := Nat.le_of_eq W120.size.symm
  have K120 : Keep h0 h120 [] := Keep.wr K116 W120 (Or.inr sz85)
  have N120 := Fr.snoc X120 N116 ge84
  have V120 : Arv Z h120 b78 k78 .char (49 : Int32) [(.int (nar .char (81 : Int32))), (.int (nar .char (117 : Int32))), (.int (nar .char (101 : Int32))), (.int (nar .char (117 : Int32))), (.int (nar .char (101 : Int32))), (.int (nar .char (67 : Int32))), (.int (nar .char (111 : Int32))), (.int (nar .char (117 : Int32))), (.int (nar .char (110 : Int32))), (.int (nar .char (116 : Int32))), (.int (0 : Int32)), (.int (0 : Int32)), (.int (0 : Int32)), (.int (0 : Int32)), (.int (0 : Int32)), (.int (0 : Int32)), (.int (0 : Int32)), (.int (0 : Int32)), (.int (0 : Int32)), (.int (0 : Int32)), (.int (0 : Int32)), (.int (0 : Int32)), (.int (0 : Int32)), (.int (0 : Int32)), (.int (0 : Int32)), (.int (0 : Int32)), (.int (0 : Int32)), (.int (0 : Int32)), (.int (0 : Int32)), (.int (0 : Int32)), (.int (0 : Int32)), (.int (0 : Int32)), (.int (0 : Int32)), (.int (0 : Int32)), (.int (0 : Int32)), (.int (0 : Int32)), (.int (0 : Int32)), (.int (0 : Int32)), (.int (0 : Int32)), (.int (0 : Int32)), (.int (0 : Int32)), (.int (0 : Int32)), (.int (0 : Int32)), (.int (0 : Int32)), (.int (0 : Int32)), (.int (0 : Int32)), (.int (0 : Int32)), (.int (0 : Int32)), (.int (0 : Int32))] (.int (0 : Int32)) := Arv.set Ar118 q118 S118 N118 H118 G118 (fits_nar_char _) W120 9 rfl (Nat.le_of_ble_eq_true rfl)
  refine own_go (fun _ => XS.dup X120.here hx rfl (hb hby at_262) rfl rfl) ?_
  refine own_go (fun _ => XS.bipush X120.here hx rfl (hb hby at_263)) ?_
  refine own_go (fun _ => XS.bipush X120.here hx rfl (hb hby at_265)) ?_
  obtain ⟨cl122, Ar122, q122, S122, N122, H122, G122⟩ := id V120
  have sf123 := Safe.arr (EL := own_EL) hZ.alike Ar122 (by decide)
  have hin122 : ¬ ((10 : Int32) < 0 ∨ cl122.slots.size ≤ ((10 : Int32)).toNatClampNeg) := inb_of S122 ⟨by decide, by decide⟩
  obtain ⟨T124, h124, X124, e124, W124, st124⟩ := stC X120 hx hZ e120 Ar122 (j := (10 : Int32)) hin122 (g := (mkF m 267 #[.val (.long xw), .second, .val (.long xd), .second, .val (.long xf), .second, .val (.long xx), .second, .val (.long xv), .second, .val (.int xs), .val (.long bw), .second, .val (.long bd), .second, .val (.long bf), .second, .val (.long bx), .second, .val (.ref b14), .val (.ref b23), .val (.int sm), .val (.int (1 : Int32)), .val (.int r1_65), .val (.int r1_66), .val (.int r1_67), .val (.int r1_68), .val (.ref b69), .unset, .unset] [(.int (115 : Int32)), (.int (10 : Int32)), (.ref b78), (.ref b78)])) rfl rfl (hb hby at_267)
  refine own_go st124 ?_
  have CH125 := CHr.trans CH121 (CHr.wr W124 sf123 CH121.1)
  have le_124 : h120.size ≤ h124.size := Nat.le_of_eq W124.size.symm
  have K124 : Keep h0 h124 [] := Keep.wr K120 W124 (Or.inr sz85)
  have N124 := Fr.snoc X124 N120 ge84
  have V124 : Arv Z h124 b78 k78 .char (49 : Int32) [(.int (nar .char (81 : Int32))), (.int (nar .char (117 : Int32))), (.int (nar .char (101 : Int32))), (.int (nar .char (117 : Int32))), (.int (nar .char (101 : Int32))), (.int (nar .char (67 : Int32))), (.int (nar .char (111 : Int32))), (.int (nar .char (117 : Int32))), (.int (nar .char (110 : Int32))), (.int (nar .char (116 : Int32))), (.int (nar .char (115 : Int32))), (.int (0 : Int32)), (.int (0 : Int32)), (.int (0 : Int32)), (.int (0 : Int32)), (.int (0 : Int32)), (.int (0 : Int32)), (.int (0 : Int32)), (.int (0 : Int32)), (.int (0 : Int32)), (.int (0 : Int32)), (.int (0 : Int32)), (.int (0 : Int32)), (.int (0 : Int32)), (.int (0 : Int32)), (.int (0 : Int32)), (.int (0 : Int32)), (.int (0 : Int32)), (.int (0 : Int32)), (.int (0 : Int32)), (.int (0 : Int32)), (.int (0 : Int32)), (.int (0 : Int32)), (.int (0 : Int32)), (.int (0 : Int32)), (.int (0 : Int32)), (.int (0 : Int32)), (.int (0 : Int32)), (.int (0 : Int32)), (.int (0 : Int32)), (.int (0 : Int32)), (.int (0 : Int32)), (.int (0 : Int32)), (.int (0 : Int32)), (.int (0 : Int32)), (.int (0 : Int32)), (.int (0 : Int32)), (.int (0 : Int32)), (.int (0 : Int32))] (.int (0 : Int32)) := Arv.set Ar122 q122 S122 N122 H122 G122 (fits_nar_char _) W124 10 rfl (Nat.le_of_ble_eq_true rfl)
  refine own_go (fun _ => XS.dup X124.here hx rfl (hb hby at_268) rfl rfl) ?_
  refine own_go (fun _ => XS.bipush X124.here hx rfl (hb hby at_269)) ?_
  refine own_go (fun _ => XS.bipush X124.here hx rfl (hb hby at_271)) ?_
  obtain ⟨cl126, Ar126, q126, S126, N126, H126, G126⟩ := id V124
  have sf127 := Safe.arr (EL := own_EL) hZ.alike Ar126 (by decide)
  have hin126 : ¬ ((11 : Int32) < 0 ∨ cl126.slots.size ≤ ((11 : Int32)).toNatClampNeg) := inb_of S126 ⟨by decide, by decide⟩
  obtain ⟨T128, h128, X128, e128, W128, st128⟩ := stC X124 hx hZ e124 Ar126 (j := (11 : Int32)) hin126 (g := (mkF m 273 #[.val (.long xw), .second, .val (.long xd), .second, .val (.long xf), .second, .val (.long xx), .second, .val (.long xv), .second, .val (.int xs), .val (.long bw), .second, .val (.long bd), .second, .val (.long bf), .second, .val (.long bx), .second, .val (.ref b14), .val (.ref b23), .val (.int sm), .val (.int (1 : Int32)), .val (.int r1_65), .val (.int r1_66), .val (.int r1_67), .val (.int r1_68), .val (.ref b69), .unset, .unset] [(.int (91 : Int32)), (.int (11 : Int32)), (.ref b78), (.ref b78)])) rfl rfl (hb hby at_273)
  refine own_go st128 ?_
  have CH129 := CHr.trans CH125 (CHr.wr W128 sf127 CH125.1)
  have le_128 : h124.size ≤ h128.size := Nat.le_of_eq W128.size.symm
  have K128 : Keep h0 h128 [] := Keep.wr K124 W128 (Or.inr sz85)
  have N128 := Fr.snoc X128 N124 ge84
  have V128 : Arv Z h128 b78 k78 .char (49 : Int32) [(.int (nar .char (81 : Int32))), (.int (nar .char (117 : Int32))), (.int (nar .char (101 : Int32))), (.int (nar .char (117 : Int32))), (.int (nar .char (101 : Int32))), (.int (nar .char (67 : Int32))), (.int (nar .char (111 : Int32))), (.int (nar .char (117 : Int32))), (.int (nar .char (110 : Int32))), (.int (nar .char (116 : Int32))), (.int (nar .char (115 : Int32))), (.int (nar .char (91 : Int32))), (.int (0 : Int32)), (.int (0 : Int32)), (.int (0 : Int32)), (.int (0 : Int32)), (.int (0 : Int32)), (.int (0 : Int32)), (.int (0 : Int32)), (.int (0 : Int32)), (.int (0 : Int32)), (.int (0 : Int32)), (.int (0 : Int32)), (.int (0 : Int32)), (.int (0 : Int32)), (.int (0 : Int32)), (.int (0 : Int32)), (.int (0 : Int32)), (.int (0 : Int32)), (.int (0 : Int32)), (.int (0 : Int32)), (.int (0 : Int32)), (.int (0 : Int32)), (.int (0 : Int32)), (.int (0 : Int32)), (.int (0 : Int32)), (.int (0 : Int32)), (.int (0 : Int32)), (.int (0 : Int32)), (.int (0 : Int32)), (.int (0 : Int32)), (.int (0 : Int32)), (.int (0 : Int32)), (.int (0 : Int32)), (.int (0 : Int32)), (.int (0 : Int32)), (.int (0 : Int32)), (.int (0 : Int32)), (.int (0 : Int32))] (.int (0 : Int32)) := Arv.set Ar126 q126 S126 N126 H126 G126 (fits_nar_char _) W128 11 rfl (Nat.le_of_ble_eq_true rfl)
  refine own_go (fun _ => XS.dup X128.here hx rfl (hb hby at_274) rfl rfl) ?_
  show ∃ t o, Steps p.tables e below (T128.setTop (mkF m 275 #[.val (.long xw), .second, .val (.long xd), .second, .val (.long xf), .second, .val (.long xx), .second, .val (.long xv), .second, .val (.int xs), .val (.long bw), .second, .val (.long bd), .second, .val (.long bf), .second, .val (.long bx), .second, .val (.ref b14), .val (.ref b23), .val (.int sm), .val (.int (1 : Int32)), .val (.int r1_65), .val (.int r1_66), .val (.int r1_67), .val (.int r1_68), .val (.ref b69), .unset, .unset] [(.ref b78), (.ref b78)])) t ∧ _
  refine own_go (fun _ => XS.bipush X128.here hx rfl (hb hby at_275)) ?_
  refine own_go (fun _ => XS.bipush X128.here hx rfl (hb hby at_277)) ?_
  obtain ⟨cl130, Ar130, q130, S130, N130, H130, G130⟩ := id V128
  have sf131 := Safe.arr (EL := own_EL) hZ.alike Ar130 (by decide)
  have hin130 : ¬ ((12 : Int32) < 0 ∨ cl130.slots.size ≤ ((12 : Int32)).toNatClampNeg) := inb_of S130 ⟨by decide, by decide⟩
  obtain ⟨T132, h132, X132, e132, W132, st132⟩ := stC X128 hx hZ e128 Ar130 (j := (12 : Int32)) hin130 (g := (mkF m 279 #[.val (.long xw), .second, .val (.long xd), .second, .val (.long xf), .second, .val (.long xx), .second, .val (.long xv), .second, .val (.int xs), .val (.long bw), .second, .val (.long bd), .second, .val (.long bf), .second, .val (.long bx), .second, .val (.ref b14), .val (.ref b23), .val (.int sm), .val (.int (1 : Int32)), .val (.int r1_65), .val (.int r1_66), .val (.int r1_67), .val (.int r1_68), .val (.ref b69), .unset, .unset] [(.int (119 : Int32)), (.int (12 : Int32)), (.ref b78), (.ref b78)])) rfl rfl (hb hby at_279)
  refine own_go st132 ?_
  have CH133 := CHr.trans CH129 (CHr.wr W132 sf131 CH129.1)
  have le_132 : h128.size ≤ h132.size := Nat.le_of_eq W132.size.symm
  have K132 : Keep h0 h132 [] := Keep.wr K128 W132 (Or.inr sz85)
  have N132 := Fr.snoc X132 N128 ge84
  have V132 : Arv Z h132 b78 k78 .char (49 : Int32) [(.int (nar .char (81 : Int32))), (.int (nar .char (117 : Int32))), (.int (nar .char (101 : Int32))), (.int (nar .char (117 : Int32))), (.int (nar .char (101 : Int32))), (.int (nar .char (67 : Int32))), (.int (nar .char (111 : Int32))), (.int (nar .char (117 : Int32))), (.int (nar .char (110 : Int32))), (.int (nar .char (116 : Int32))), (.int (nar .char (115 : Int32))), (.int (nar .char (91 : Int32))), (.int (nar .char (119 : Int32))), (.int (0 : Int32)), (.int (0 : Int32)), (.int (0 : Int32)), (.int (0 : Int32)), (.int (0 : Int32)), (.int (0 : Int32)), (.int (0 : Int32)), (.int (0 : Int32)), (.int (0 : Int32)), (.int (0 : Int32)), (.int (0 : Int32)), (.int (0 : Int32)), (.int (0 : Int32)), (.int (0 : Int32)), (.int (0 : Int32)), (.int (0 : Int32)), (.int (0 : Int32)), (.int (0 : Int32)), (.int (0 : Int32)), (.int (0 : Int32)), (.int (0 : Int32)), (.int (0 : Int32)), (.int (0 : Int32)), (.int (0 : Int32)), (.int (0 : Int32)), (.int (0 : Int32)), (.int (0 : Int32)), (.int (0 : Int32)), (.int (0 : Int32)), (.int (0 : Int32)), (.int (0 : Int32)), (.int (0 : Int32)), (.int (0 : Int32)), (.int (0 : Int32)), (.int (0 : Int32)), (.int (0 : Int32))] (.int (0 : Int32)) := Arv.set Ar130 q130 S130 N130 H130 G130 (fits_nar_char _) W132 12 rfl (Nat.le_of_ble_eq_true rfl)
  refine own_go (fun _ => XS.dup X132.here hx rfl (hb hby at_280) rfl rfl) ?_
  refine own_go (fun _ => XS.bipush X132.here hx rfl (hb hby at_281)) ?_
  refine own_go (fun _ => XS.bipush X132.here hx rfl (hb hby at_283)) ?_
  obtain ⟨cl134, Ar134, q134, S134, N134, H134, G134⟩ := id V132
  have sf135 := Safe.arr (EL := own_EL) hZ.alike Ar134 (by decide)
  have hin134 : ¬ ((13 : Int32) < 0 ∨ cl134.slots.size ≤ ((13 : Int32)).toNatClampNeg) := inb_of S134 ⟨by decide, by decide⟩
  obtain ⟨T136, h136, X136, e136, W136, st136⟩ := stC X132 hx hZ e132 Ar134 (j := (13 : Int32)) hin134 (g := (mkF m 285 #[.val (.long xw), .second, .val (.long xd), .second, .val (.long xf), .second, .val (.long xx), .second, .val (.long xv), .second, .val (.int xs), .val (.long bw), .second, .val (.long bd), .second, .val (.long bf), .second, .val (.long bx), .second, .val (.ref b14), .val (.ref b23), .val (.int sm), .val (.int (1 : Int32)), .val (.int r1_65), .val (.int r1_66), .val (.int r1_67), .val (.int r1_68), .val (.ref b69), .unset, .unset] [(.int (97 : Int32)), (.int (13 : Int32)), (.ref b78), (.ref b78)])) rfl rfl (hb hby at_285)
  refine own_go st136 ?_
  have CH137 := CHr.trans CH133 (CHr.wr W136 sf135 CH133.1)
  have le_136 : h132.size ≤ h136.size := Nat.le_of_eq W136.size.symm
  have K136 : Keep h0 h136 [] := Keep.wr K132 W136 (Or.inr sz85)
  have N136 := Fr.snoc X136 N132 ge84
  have V136 : Arv Z h136 b78 k78 .char (49 : Int32) [(.int (nar .char (81 : Int32))), (.int (nar .char (117 : Int32))), (.int (nar .char (101 : Int32))), (.int (nar .char (117 : Int32))), (.int (nar .char (101 : Int32))), (.int (nar .char (67 : Int32))), (.int (nar .char (111 : Int32))), (.int (nar .char (117 : Int32))), (.int (nar .char (110 : Int32))), (.int (nar .char (116 : Int32))), (.int (nar .char (115 : Int32))), (.int (nar .char (91 : Int32))), (.int (nar .char (119 : Int32))), (.int (nar .char (97 : Int32))), (.int (0 : Int32)), (.int (0 : Int32)), (.int (0 : Int32)), (.int (0 : Int32)), (.int (0 : Int32)), (.int (0 : Int32)), (.int (0 : Int32)), (.int (0 : Int32)), (.int (0 : Int32)), (.int (0 : Int32)), (.int (0 : Int32)), (.int (0 : Int32)), (.int (0 : Int32)), (.int (0 : Int32)), (.int (0 : Int32)), (.int (0 : Int32)), (.int (0 : Int32)), (.int (0 : Int32)), (.int (0 : Int32)), (.int (0 : Int32)), (.int (0 : Int32)), (.int (0 : Int32)), (.int (0 : Int32)), (.int (0 : Int32)), (.int (0 : Int32)), (.int (0 : Int32)), (.int (0 : Int32)), (.int (0 : Int32)), (.int (0 : Int32)), (.int (0 : Int32)), (.int (0 : Int32)), (.int (0 : Int32)), (.int (0 : Int32)), (.int (0 : Int32)), (.int (0 : Int32))] (.int (0 : Int32)) := Arv.set Ar134 q134 S134 N134 H134 G134 (fits_nar_char _) W136 13 rfl (Nat.le_of_ble_eq_true rfl)
  refine own_go (fun _ => XS.dup X136.here hx rfl (hb hby at_286) rfl rfl) ?_
  refine own_go (fun _ => XS.bipush X136.here hx rfl (hb hby at_287)) ?_
  refine own_go (fun _ => XS.bipush X136.here hx rfl (hb hby at_289)) ?_
  show ∃ t o, Steps p.tables e below (T136.setTop (mkF m 291 #[.val (.long xw), .second, .val (.long xd), .second, .val (.long xf), .second, .val (.long xx), .second, .val (.long xv), .second, .val (.int xs), .val (.long bw), .second, .val (.long bd), .second, .val (.long bf), .second, .val (.long bx), .second, .val (.ref b14), .val (.ref b23), .val (.int sm), .val (.int (1 : Int32)), .val (.int r1_65), .val (.int r1_66), .val (.int r1_67), .val (.int r1_68), .val (.ref b69), .unset, .unset] [(.int (105 : Int32)), (.int (14 : Int32)), (.ref b78), (.ref b78)])) t ∧ _
  obtain ⟨cl138, Ar138, q138, S138, N138, H138, G138⟩ := id V136
  have sf139 := Safe.arr (EL := own_EL) hZ.alike Ar138 (by decide)
  have hin138 : ¬ ((14 : Int32) < 0 ∨ cl138.slots.size ≤ ((14 : Int32)).toNatClampNeg) := inb_of S138 ⟨by decide, by decide⟩
  obtain ⟨T140, h140, X140, e140, W140, st140⟩ := stC X136 hx hZ e136 Ar138 (j := (14 : Int32)) hin138 (g := (mkF m 291 #[.val (.long xw), .second, .val (.long xd), .second, .val (.long xf), .second, .val (.long xx), .second, .val (.long xv), .second, .val (.int xs), .val (.long bw), .second, .val (.long bd), .second, .val (.long bf), .second, .val (.long bx), .second, .val (.ref b14), .val (.ref b23), .val (.int sm), .val (.int (1 : Int32)), .val (.int r1_65), .val (.int r1_66), .val (.int r1_67), .val (.int r1_68), .val (.ref b69), .unset, .unset] [(.int (105 : Int32)), (.int (14 : Int32)), (.ref b78), (.ref b78)])) rfl rfl (hb hby at_291)
  refine own_go st140 ?_
  have CH141 := CHr.trans CH137 (CHr.wr W140 sf139 CH137.1)
  have le_140 : h136.size ≤ h140.size := Nat.le_of_eq W140.size.symm
  have K140 : Keep h0 h140 [] := Keep.wr K136 W140 (Or.inr sz85)
  have N140 := Fr.snoc X140 N136 ge84
  have V140 : Arv Z h140 b78 k78 .char (49 : Int32) [(.int (nar .char (81 : Int32))), (.int (nar .char (117 : Int32))), (.int (nar .char (101 : Int32))), (.int (nar .char (117 : Int32))), (.int (nar .char (101 : Int32))), (.int (nar .char (67 : Int32))), (.int (nar .char (111 : Int32))), (.int (nar .char (117 : Int32))), (.int (nar .char (110 : Int32))), (.int (nar .char (116 : Int32))), (.int (nar .char (115 : Int32))), (.int (nar .char (91 : Int32))), (.int (nar .char (119 : Int32))), (.int (nar .char (97 : Int32))), (.int (nar .char (105 : Int32))), (.int (0 : Int32)), (.int (0 : Int32)), (.int (0 : Int32)), (.int (0 : Int32)), (.int (0 : Int32)), (.int (0 : Int32)), (.int (0 : Int32)), (.int (0 : Int32)), (.int (0 : Int32)), (.int (0 : Int32)), (.int (0 : Int32)), (.int (0 : Int32)), (.int (0 : Int32)), (.int (0 : Int32)), (.int (0 : Int32)), (.int (0 : Int32)), (.int (0 : Int32)), (.int (0 : Int32)), (.int (0 : Int32)), (.int (0 : Int32)), (.int (0 : Int32)), (.int (0 : Int32)), (.int (0 : Int32)), (.int (0 : Int32)), (.int (0 : Int32)), (.int (0 : Int32)), (.int (0 : Int32)), (.int (0 : Int32)), (.int (0 : Int32)), (.int (0 : Int32)), (.int (0 : Int32)), (.int (0 : Int32)), (.int (0 : Int32)), (.int (0 : Int32))] (.int (0 : Int32)) := Arv.set Ar138 q138 S138 N138 H138 G138 (fits_nar_char _) W140 14 rfl (Nat.le_of_ble_eq_true rfl)
  refine own_go (fun _ => XS.dup X140.here hx rfl (hb hby at_292) rfl rfl) ?_
  refine own_go (fun _ => XS.bipush X140.here hx rfl (hb hby at_293)) ?_
  refine own_go (fun _ => XS.bipush X140.here hx rfl (hb hby at_295)) ?_
  obtain ⟨cl142, Ar142, q142, S142, N142, H142, G142⟩ := id V140
  have sf143 := Safe.arr (EL := own_EL) hZ.alike Ar142 (by decide)
  have hin142 : ¬ ((15 : Int32) < 0 ∨ cl142.slots.size ≤ ((15 : Int32)).toNatClampNeg) := inb_of S142 ⟨by decide, by decide⟩
  obtain ⟨T144, h144, X144, e144, W144, st144⟩ := stC X140 hx hZ e140 Ar142 (j := (15 : Int32)) hin142 (g := (mkF m 297 #[.val (.long xw), .second, .val (.long xd), .second, .val (.long xf), .second, .val (.long xx), .second, .val (.long xv), .second, .val (.int xs), .val (.long bw), .second, .val (.long bd), .second, .val (.long bf), .second, .val (.long bx), .second, .val (.ref b14), .val (.ref b23), .val (.int sm), .val (.int (1 : Int32)), .val (.int r1_65), .val (.int r1_66), .val (.int r1_67), .val (.int r1_68), .val (.ref b69), .unset, .unset] [(.int (116 : Int32)), (.int (15 : Int32)), (.ref b78), (.ref b78)])) rfl rfl (hb hby at_297)
  refine own_go st144 ?_
  have CH145 := CHr.trans CH141 (CHr.wr W144 sf143 CH141.1)
  have le_144 : h140.size ≤ h144.size := Nat.le_of_eq W144.size.symm
  have K144 : Keep h0 h144 [] := Keep.wr K140 W144 (Or.inr sz85)
  have N144 := Fr.snoc X144 N140 ge84
  have V144 : Arv Z h144 b78 k78 .char (49 : Int32) [(.int (nar .char (81 : Int32))), (.int (nar .char (117 : Int32))), (.int (nar .char (101 : Int32))), (.int (nar .char (117 : Int32))), (.int (nar .char (101 : Int32))), (.int (nar .char (67 : Int32))), (.int (nar .char (111 : Int32))), (.int (nar .char (117 : Int32))), (.int (nar .char (110 : Int32))), (.int (nar .char (116 : Int32))), (.int (nar .char (115 : Int32))), (.int (nar .char (91 : Int32))), (.int (nar .char (119 : Int32))), (.int (nar .char (97 : Int32))), (.int (nar .char (105 : Int32))), (.int (nar .char (116 : Int32))), (.int (0 : Int32)), (.int (0 : Int32)), (.int (0 : Int32)), (.int (0 : Int32)), (.int (0 : Int32)), (.int (0 : Int32)), (.int (0 : Int32)), (.int (0 : Int32)), (.int (0 : Int32)), (.int (0 : Int32)), (.int (0 : Int32)), (.int (0 : Int32)), (.int (0 : Int32)), (.int (0 : Int32)), (.int (0 : Int32)), (.int (0 : Int32)), (.int (0 : Int32)), (.int (0 : Int32)), (.int (0 : Int32)), (.int (0 : Int32)), (.int (0 : Int32)), (.int (0 : Int32)), (.int (0 : Int32)), (.int (0 : Int32)), (.int (0 : Int32)), (.int (0 : Int32)), (.int (0 : Int32)), (.int (0 : Int32)), (.int (0 : Int32)), (.int (0 : Int32)), (.int (0 : Int32)), (.int (0 : Int32)), (.int (0 : Int32))] (.int (0 : Int32)) := Arv.set Ar142 q142 S142 N142 H142 G142 (fits_nar_char _) W144 15 rfl (Nat.le_of_ble_eq_true rfl)
  refine own_go (fun _ => XS.dup X144.here hx rfl (hb hby at_298) rfl rfl) ?_
  refine own_go (fun _ => XS.bipush X144.here hx rfl (hb hby at_299)) ?_
  refine own_go (fun _ => XS.bipush X144.here hx rfl (hb hby at_301)) ?_
  obtain ⟨cl146, Ar146, q146, S146, N146, H146, G146⟩ := id V144
  have sf147 := Safe.arr (EL := own_EL) hZ.alike Ar146 (by decide)
  have hin146 : ¬ ((16 : Int32) < 0 ∨ cl146.slots.size ≤ ((16 : Int32)).toNatClampNeg) := inb_of S146 ⟨by decide, by decide⟩
  obtain ⟨T148, h148, X148, e148, W148, st148⟩ := stC X144 hx hZ e144 Ar146 (j := (16 : Int32)) hin146 (g := (mkF m 303 #[.val (.long xw), .second, .val (.long xd), .second, .val (.long xf), .second, .val (.long xx), .second, .val (.long xv), .second, .val (.int xs), .val (.long bw), .second, .val (.long bd), .second, .val (.long bf), .second, .val (.long bx), .second, .val (.ref b14), .val (.ref b23), .val (.int sm), .val (.int (1 : Int32)), .val (.int r1_65), .val (.int r1_66), .val (.int r1_67), .val (.int r1_68), .val (.ref b69), .unset, .unset] [(.int (105 : Int32)), (.int (16 : Int32)), (.ref b78), (.ref b78)])) rfl rfl (hb hby at_303)
  refine own_go st148 ?_
  have CH149 := CHr.trans CH145 (CHr.wr W148 sf147 CH145.1)
  have le_148 : h144.size ≤ h148.size := Nat.le_of_eq W148.size.symm
  have K148 : Keep h0 h148 [] := Keep.wr K144 W148 (Or.inr sz85)
  have N148 := Fr.snoc X148 N144 ge84
  have V148 : Arv Z h148 b78 k78 .char (49 : Int32) [(.int (nar .char (81 : Int32))), (.int (nar .char (117 : Int32))), (.int (nar .char (101 : Int32))), (.int (nar .char (117 : Int32))), (.int (nar .char (101 : Int32))), (.int (nar .char (67 : Int32))), (.int (nar .char (111 : Int32))), (.int (nar .char (117 : Int32))), (.int (nar .char (110 : Int32))), (.int (nar .char (116 : Int32))), (.int (nar .char (115 : Int32))), (.int (nar .char (91 : Int32))), (.int (nar .char (119 : Int32))), (.int (nar .char (97 : Int32))), (.int (nar .char (105 : Int32))), (.int (nar .char (116 : Int32))), (.int (nar .char (105 : Int32))), (.int (0 : Int32)), (.int (0 : Int32)), (.int (0 : Int32)), (.int (0 : Int32)), (.int (0 : Int32)), (.int (0 : Int32)), (.int (0 : Int32)), (.int (0 : Int32)), (.int (0 : Int32)), (.int (0 : Int32)), (.int (0 : Int32)), (.int (0 : Int32)), (.int (0 : Int32)), (.int (0 : Int32)), (.int (0 : Int32)), (.int (0 : Int32)), (.int (0 : Int32)), (.int (0 : Int32)), (.int (0 : Int32)), (.int (0 : Int32)), (.int (0 : Int32)), (.int (0 : Int32)), (.int (0 : Int32)), (.int (0 : Int32)), (.int (0 : Int32)), (.int (0 : Int32)), (.int (0 : Int32)), (.int (0 : Int32)), (.int (0 : Int32)), (.int (0 : Int32)), (.int (0 : Int32)), (.int (0 : Int32))] (.int (0 : Int32)) := Arv.set Ar146 q146 S146 N146 H146 G146 (fits_nar_char _) W148 16 rfl (Nat.le_of_ble_eq_true rfl)
  refine own_go (fun _ => XS.dup X148.here hx rfl (hb hby at_304) rfl rfl) ?_
  show ∃ t o, Steps p.tables e below (T148.setTop (mkF m 305 #[.val (.long xw), .second, .val (.long xd), .second, .val (.long xf), .second, .val (.long xx), .second, .val (.long xv), .second, .val (.int xs), .val (.long bw), .second, .val (.long bd), .second, .val (.long bf), .second, .val (.long bx), .second, .val (.ref b14), .val (.ref b23), .val (.int sm), .val (.int (1 : Int32)), .val (.int r1_65), .val (.int r1_66), .val (.int r1_67), .val (.int r1_68), .val (.ref b69), .unset, .unset] [(.ref b78), (.ref b78)])) t ∧ _
  refine own_go (fun _ => XS.bipush X148.here hx rfl (hb hby at_305)) ?_
  refine own_go (fun _ => XS.bipush X148.here hx rfl (hb hby at_307)) ?_
  obtain ⟨cl150, Ar150, q150, S150, N150, H150, G150⟩ := id V148
  have sf151 := Safe.arr (EL := own_EL) hZ.alike Ar150 (by decide)
  have hin150 : ¬ ((17 : Int32) < 0 ∨ cl150.slots.size ≤ ((17 : Int32)).toNatClampNeg) := inb_of S150 ⟨by decide, by decide⟩
  obtain ⟨T152, h152, X152, e152, W152, st152⟩ := stC X148 hx hZ e148 Ar150 (j := (17 : Int32)) hin150 (g := (mkF m 309 #[.val (.long xw), .second, .val (.long xd), .second, .val (.long xf), .second, .val (.long xx), .second, .val (.long xv), .second, .val (.int xs), .val (.long bw), .second, .val (.long bd), .second, .val (.long bf), .second, .val (.long bx), .second, .val (.ref b14), .val (.ref b23), .val (.int sm), .val (.int (1 : Int32)), .val (.int r1_65), .val (.int r1_66), .val (.int r1_67), .val (.int r1_68), .val (.ref b69), .unset, .unset] [(.int (110 : Int32)), (.int (17 : Int32)), (.ref b78), (.ref b78)])) rfl rfl (hb hby at_309)
  refine own_go st152 ?_
  have CH153 := CHr.trans CH149 (CHr.wr W152 sf151 CH149.1)
  have le_152 : h148.size ≤ h152.size := Nat.le_of_eq W152.size.symm
  have K152 : Keep h0 h152 [] := Keep.wr K148 W152 (Or.inr sz85)
  have N152 := Fr.snoc X152 N148 ge84
  have V152 : Arv Z h152 b78 k78 .char (49 : Int32) [(.int (nar .char (81 : Int32))), (.int (nar .char (117 : Int32))), (.int (nar .char (101 : Int32))), (.int (nar .char (117 : Int32))), (.int (nar .char (101 : Int32))), (.int (nar .char (67 : Int32))), (.int (nar .char (111 : Int32))), (.int (nar .char (117 : Int32))), (.int (nar .char (110 : Int32))), (.int (nar .char (116 : Int32))), (.int (nar .char (115 : Int32))), (.int (nar .char (91 : Int32))), (.int (nar .char (119 : Int32))), (.int (nar .char (97 : Int32))), (.int (nar .char (105 : Int32))), (.int (nar .char (116 : Int32))), (.int (nar .char (105 : Int32))), (.int (nar .char (110 : Int32))), (.int (0 : Int32)), (.int (0 : Int32)), (.int (0 : Int32)), (.int (0 : Int32)), (.int (0 : Int32)), (.int (0 : Int32)), (.int (0 : Int32)), (.int (0 : Int32)), (.int (0 : Int32)), (.int (0 : Int32)), (.int (0 : Int32)), (.int (0 : Int32)), (.int (0 : Int32)), (.int (0 : Int32)), (.int (0 : Int32)), (.int (0 : Int32)), (.int (0 : Int32)), (.int (0 : Int32)), (.int (0 : Int32)), (.int (0 : Int32)), (.int (0 : Int32)), (.int (0 : Int32)), (.int (0 : Int32)), (.int (0 : Int32)), (.int (0 : Int32)), (.int (0 : Int32)), (.int (0 : Int32)), (.int (0 : Int32)), (.int (0 : Int32)), (.int (0 : Int32)), (.int (0 : Int32))] (.int (0 : Int32)) := Arv.set Ar150 q150 S150 N150 H150 G150 (fits_nar_char _) W152 17 rfl (Nat.le_of_ble_eq_true rfl)
  refine own_go (fun _ => XS.dup X152.here hx rfl (hb hby at_310) rfl rfl) ?_
  refine own_go (fun _ => XS.bipush X152.here hx rfl (hb hby at_311)) ?_
  refine own_go (fun _ => XS.bipush X152.here hx rfl (hb hby at_313)) ?_
  obtain ⟨cl154, Ar154, q154, S154, N154, H154, G154⟩ := id V152
  have sf155 := Safe.arr (EL := own_EL) hZ.alike Ar154 (by decide)
  have hin154 : ¬ ((18 : Int32) < 0 ∨ cl154.slots.size ≤ ((18 : Int32)).toNatClampNeg) := inb_of S154 ⟨by decide, by decide⟩
  obtain ⟨T156, h156, X156, e156, W156, st156⟩ := stC X152 hx hZ e152 Ar154 (j := (18 : Int32)) hin154 (g := (mkF m 315 #[.val (.long xw), .second, .val (.long xd), .second, .val (.long xf), .second, .val (.long xx), .second, .val (.long xv), .second, .val (.int xs), .val (.long bw), .second, .val (.long bd), .second, .val (.long bf), .second, .val (.long bx), .second, .val (.ref b14), .val (.ref b23), .val (.int sm), .val (.int (1 : Int32)), .val (.int r1_65), .val (.int r1_66), .val (.int r1_67), .val (.int r1_68), .val (.ref b69), .unset, .unset] [(.int (103 : Int32)), (.int (18 : Int32)), (.ref b78), (.ref b78)])) rfl rfl (hb hby at_315)
  refine own_go st156 ?_
  have CH157 := CHr.trans CH153 (CHr.wr W156 sf155 CH153.1)
  have le_156 : h152.size ≤ h156.size := Nat.le_of_eq W156.size.symm
  have K156 : Keep h0 h156 [] := Keep.wr K152 W156 (Or.inr sz85)
  have N156 := Fr.snoc X156 N152 ge84
  have V156 : Arv Z h156 b78 k78 .char (49 : Int32) [(.int (nar .char (81 : Int32))), (.int (nar .char (117 : Int32))), (.int (nar .char (101 : Int32))), (.int (nar .char (117 : Int32))), (.int (nar .char (101 : Int32))), (.int (nar .char (67 : Int32))), (.int (nar .char (111 : Int32))), (.int (nar .char (117 : Int32))), (.int (nar .char (110 : Int32))), (.int (nar .char (116 : Int32))), (.int (nar .char (115 : Int32))), (.int (nar .char (91 : Int32))), (.int (nar .char (119 : Int32))), (.int (nar .char (97 : Int32))), (.int (nar .char (105 : Int32))), (.int (nar .char (116 : Int32))), (.int (nar .char (105 : Int32))), (.int (nar .char (110 : Int32))), (.int (nar .char (103 : Int32))), (.int (0 : Int32)), (.int (0 : Int32)), (.int (0 : Int32)), (.int (0 : Int32)), (.int (0 : Int32)), (.int (0 : Int32)), (.int (0 : Int32)), (.int (0 : Int32)), (.int (0 : Int32)), (.int (0 : Int32)), (.int (0 : Int32)), (.int (0 : Int32)), (.int (0 : Int32)), (.int (0 : Int32)), (.int (0 : Int32)), (.int (0 : Int32)), (.int (0 : Int32)), (.int (0 : Int32)), (.int (0 : Int32)), (.int (0 : Int32)), (.int (0 : Int32)), (.int (0 : Int32)), (.int (0 : Int32)), (.int (0 : Int32)), (.int (0 : Int32)), (.int (0 : Int32)), (.int (0 : Int32)), (.int (0 : Int32)), (.int (0 : Int32)), (.int (0 : Int32))] (.int (0 : Int32)) := Arv.set Ar154 q154 S154 N154 H154 G154 (fits_nar_char _) W156 18 rfl (Nat.le_of_ble_eq_true rfl)
  refine own_go (fun _ => XS.dup X156.here hx rfl (hb hby at_316) rfl rfl) ?_
  refine own_go (fun _ => XS.bipush X156.here hx rfl (hb hby at_317)) ?_
  refine own_go (fun _ => XS.bipush X156.here hx rfl (hb hby at_319)) ?_
  show ∃ t o, Steps p.tables e below (T156.setTop (mkF m 321 #[.val (.long xw), .second, .val (.long xd), .second, .val (.long xf), .second, .val (.long xx), .second, .val (.long xv), .second, .val (.int xs), .val (.long bw), .second, .val (.long bd), .second, .val (.long bf), .second, .val (.long bx), .second, .val (.ref b14), .val (.ref b23), .val (.int sm), .val (.int (1 : Int32)), .val (.int r1_65), .val (.int r1_66), .val (.int r1_67), .val (.int r1_68), .val (.ref b69), .unset, .unset] [(.int (61 : Int32)), (.int (19 : Int32)), (.ref b78), (.ref b78)])) t ∧ _
  obtain ⟨cl158, Ar158, q158, S158, N158, H158, G158⟩ := id V156
  have sf159 := Safe.arr (EL := own_EL) hZ.alike Ar158 (by decide)
  have hin158 : ¬ ((19 : Int32) < 0 ∨ cl158.slots.size ≤ ((19 : Int32)).toNatClampNeg) := inb_of S158 ⟨by decide, by decide⟩
  obtain ⟨T160, h160, X160, e160, W160, st160⟩ := stC X156 hx hZ e156 Ar158 (j := (19 : Int32)) hin158 (g := (mkF m 321 #[.val (.long xw), .second, .val (.long xd), .second, .val (.long xf), .second, .val (.long xx), .second, .val (.long xv), .second, .val (.int xs), .val (.long bw), .second, .val (.long bd), .second, .val (.long bf), .second, .val (.long bx), .second, .val (.ref b14), .val (.ref b23), .val (.int sm), .val (.int (1 : Int32)), .val (.int r1_65), .val (.int r1_66), .val (.int r1_67), .val (.int r1_68), .val (.ref b69), .unset, .unset] [(.int (61 : Int32)), (.int (19 : Int32)), (.ref b78), (.ref b78)])) rfl rfl (hb hby at_321)
  refine own_go st160 ?_
  have CH161 := CHr.trans CH157 (CHr.wr W160 sf159 CH157.1)
  have le_160 : h156.size ≤ h160.size := Nat.le_of_eq W160.size.symm
  have K160 : Keep h0 h160 [] := Keep.wr K156 W160 (Or.inr sz85)
  have N160 := Fr.snoc X160 N156 ge84
  have V160 : Arv Z h160 b78 k78 .char (49 : Int32) [(.int (nar .char (81 : Int32))), (.int (nar .char (117 : Int32))), (.int (nar .char (101 : Int32))), (.int (nar .char (117 : Int32))), (.int (nar .char (101 : Int32))), (.int (nar .char (67 : Int32))), (.int (nar .char (111 : Int32))), (.int (nar .char (117 : Int32))), (.int (nar .char (110 : Int32))), (.int (nar .char (116 : Int32))), (.int (nar .char (115 : Int32))), (.int (nar .char (91 : Int32))), (.int (nar .char (119 : Int32))), (.int (nar .char (97 : Int32))), (.int (nar .char (105 : Int32))), (.int (nar .char (116 : Int32))), (.int (nar .char (105 : Int32))), (.int (nar .char (110 : Int32))), (.int (nar .char (103 : Int32))), (.int (nar .char (61 : Int32))), (.int (0 : Int32)), (.int (0 : Int32)), (.int (0 : Int32)), (.int (0 : Int32)), (.int (0 : Int32)), (.int (0 : Int32)), (.int (0 : Int32)), (.int (0 : Int32)), (.int (0 : Int32)), (.int (0 : Int32)), (.int (0 : Int32)), (.int (0 : Int32)), (.int (0 : Int32)), (.int (0 : Int32)), (.int (0 : Int32)), (.int (0 : Int32)), (.int (0 : Int32)), (.int (0 : Int32)), (.int (0 : Int32)), (.int (0 : Int32)), (.int (0 : Int32)), (.int (0 : Int32)), (.int (0 : Int32)), (.int (0 : Int32)), (.int (0 : Int32)), (.int (0 : Int32)), (.int (0 : Int32)), (.int (0 : Int32)), (.int (0 : Int32))] (.int (0 : Int32)) := Arv.set Ar158 q158 S158 N158 H158 G158 (fits_nar_char _) W160 19 rfl (Nat.le_of_ble_eq_true rfl)
  refine own_go (fun _ => XS.dup X160.here hx rfl (hb hby at_322) rfl rfl) ?_
  refine own_go (fun _ => XS.bipush X160.here hx rfl (hb hby at_323)) ?_
  refine own_go (fun _ => XS.iload X160.here hx rfl (hb hby at_325) rfl) ?_
  show ∃ t o, Steps p.tables e below (T160.setTop (mkF m 327 #[.val (.long xw), .second, .val (.long xd), .second, .val (.long xf), .second, .val (.long xx), .second, .val (.long xv), .second, .val (.int xs), .val (.long bw), .second, .val (.long bd), .second, .val (.long bf), .second, .val (.long bx), .second, .val (.ref b14), .val (.ref b23), .val (.int sm), .val (.int (1 : Int32)), .val (.int r1_65), .val (.int r1_66), .val (.int r1_67), .val (.int r1_68), .val (.ref b69), .unset, .unset] [(.int r1_65), (.int (20 : Int32)), (.ref b78), (.ref b78)])) t ∧ _
  have F162 := (Old.wr (Old.wr (Old.wr (Old.wr (Old.wr (Old.wr (Old.wr (Old.wr (Old.wr (Old.wr (Old.wr (Old.wr (Old.wr (Old.wr (Old.wr (Old.wr (Old.wr (Old.wr (Old.wr (Old.wr ((Old.keep F71 Kp75 (allS ge72 all0)).ext E78) W82 ge84) W88 ge84) W92 ge84) W96 ge84) W100 ge84) W104 ge84) W108 ge84) W112 ge84) W116 ge84) W120 ge84) W124 ge84) W128 ge84) W132 ge84) W136 ge84) W140 ge84) W144 ge84) W148 ge84) W152 ge84) W156 ge84) W160 ge84)
  have zl163 : n0 ≤ h160.size := by omega
  obtain ⟨_, _, ⟨T164, L164, k164, n164⟩, -, X164, ⟨Lc164, hQ164, l164, y164, z164⟩, st164⟩ := Jvm.LawKit.callS X160 hx (y := (⟨"com/example/libtardy/libtardy/QueueCountsToStringPinLaw", "ch", "(I)C"⟩ : MethodName)) hown (mvT hZ w_206) (mvT hZ w_207) (mvT hZ w_202) (mvT hZ w_208) (by decide) (backOf (W := 3) (rmCh l Z a0 hw [] r1_65 h160 n0 zl163 F162 (H65_0 : own_d9 r1_65)) hZ w_208 w_202 (by decide) (by decide)) (g := (mkF m 327 #[.val (.long xw), .second, .val (.long xd), .second, .val (.long xf), .second, .val (.long xx), .second, .val (.long xv), .second, .val (.int xs), .val (.long bw), .second, .val (.long bd), .second, .val (.long bf), .second, .val (.long bx), .second, .val (.ref b14), .val (.ref b23), .val (.int sm), .val (.int (1 : Int32)), .val (.int r1_65), .val (.int r1_66), .val (.int r1_67), .val (.int r1_68), .val (.ref b69), .unset, .unset] [(.int r1_65), (.int (20 : Int32)), (.ref b78), (.ref b78)])) rfl (by rw [hml]; rfl) (argsL := [(.int r1_65)]) (rest := [(.int (20 : Int32)), (.ref b78), (.ref b78)]) (lenOf pd__28I_29C rfl) rfl (by show 2 * 0 + _ ≤ _; exact Nat.le_of_eq rfl) (hb hby at_327) (fun _ _ => ⟨rfl, e160, (by decide : 48 + 0 ≤ _), (by decide : 3065 + 0 ≤ _)⟩)
  dsimp only [Pt.U, Pt.locs, Pt.cells, Pt.slots] at X164 l164 y164 z164 st164 hQ164
  rw [l164, y164, z164] at X164
  obtain ⟨rfl, Nq164, e164⟩ := hQ164
  have N164 := Fr.app N160 Nq164
  refine own_go st164 ?_
  obtain ⟨cl165, Ar165, q165, S165, N165, H165, G165⟩ := id V160
  have sf166 := Safe.arr (EL := own_EL) hZ.alike Ar165 (by decide)
  have hin165 : ¬ ((20 : Int32) < 0 ∨ cl165.slots.size ≤ ((20 : Int32)).toNatClampNeg) := inb_of S165 ⟨by decide, by decide⟩
  obtain ⟨T167, h167, X167, e167, W167, st167⟩ := stC X164 hx hZ e164 Ar165 (j := (20 : Int32)) hin165 (g := (mkF m 330 #[.val (.long xw), .second, .val (.long xd), .second, .val (.long xf), .second, .val (.long xx), .second, .val (.long xv), .second, .val (.int xs), .val (.long bw), .second, .val (.long bd), .second, .val (.long bf), .second, .val (.long bx), .second, .val (.ref b14), .val (.ref b23), .val (.int sm), .val (.int (1 : Int32)), .val (.int r1_65), .val (.int r1_66), .val (.int r1_67), .val (.int r1_68), .val (.ref b69), .unset, .unset] [(.int ((48 : Int32) + r1_65)), (.int (20 : Int32)), (.ref b78), (.ref b78)])) rfl rfl (hb hby at_330)
  refine own_go st167 ?_
  have CH168 := CHr.trans CH161 (CHr.wr W167 sf166 CH161.1)
  have le_167 : h160.size ≤ h167.size := Nat.le_of_eq W167.size.symm
  have K167 : Keep h0 h167 [] := Keep.wr K160 W167 (Or.inr sz85)
  have N167 := Fr.snoc X167 N164 ge84
  have V167 : Arv Z h167 b78 k78 .char (49 : Int32) [(.int (nar .char (81 : Int32))), (.int (nar .char (117 : Int32))), (.int (nar .char (101 : Int32))), (.int (nar .char (117 : Int32))), (.int (nar .char (101 : Int32))), (.int (nar .char (67 : Int32))), (.int (nar .char (111 : Int32))), (.int (nar .char (117 : Int32))), (.int (nar .char (110 : Int32))), (.int (nar .char (116 : Int32))), (.int (nar .char (115 : Int32))), (.int (nar .char (91 : Int32))), (.int (nar .char (119 : Int32))), (.int (nar .char (97 : Int32))), (.int (nar .char (105 : Int32))), (.int (nar .char (116 : Int32))), (.int (nar .char (105 : Int32))), (.int (nar .char (110 : Int32))), (.int (nar .char (103 : Int32))), (.int (nar .char (61 : Int32))), (.int (nar .char ((48 : Int32) + r1_65))), (.int (0 : Int32)), (.int (0 : Int32)), (.int (0 : Int32)), (.int (0 : Int32)), (.int (0 : Int32)), (.int (0 : Int32)), (.int (0 : Int32)), (.int (0 : Int32)), (.int (0 : Int32)), (.int (0 : Int32)), (.int (0 : Int32)), (.int (0 : Int32)), (.int (0 : Int32)), (.int (0 : Int32)), (.int (0 : Int32)), (.int (0 : Int32)), (.int (0 : Int32)), (.int (0 : Int32)), (.int (0 : Int32)), (.int (0 : Int32)), (.int (0 : Int32)), (.int (0 : Int32)), (.int (0 : Int32)), (.int (0 : Int32)), (.int (0 : Int32)), (.int (0 : Int32)), (.int (0 : Int32)), (.int (0 : Int32))] (.int (0 : Int32)) := Arv.set Ar165 q165 S165 N165 H165 G165 (fits_nar_char _) W167 20 rfl (Nat.le_of_ble_eq_true rfl)
  refine own_go (fun _ => XS.dup X167.here hx rfl (hb hby at_331) rfl rfl) ?_
  refine own_go (fun _ => XS.bipush X167.here hx rfl (hb hby at_332)) ?_
  refine own_go (fun _ => XS.bipush X167.here hx rfl (hb hby at_334)) ?_
  obtain ⟨cl169, Ar169, q169, S169, N169, H169, G169⟩ := id V167
  have sf170 := Safe.arr (EL := own_EL) hZ.alike Ar169 (by decide)
  have hin169 : ¬ ((21 : Int32) < 0 ∨ cl169.slots.size ≤ ((21 : Int32)).toNatClampNeg) := inb_of S169 ⟨by decide, by decide⟩
  obtain ⟨T171, h171, X171, e171, W171, st171⟩ := stC X167 hx hZ e167 Ar169 (j := (21 : Int32)) hin169 (g := (mkF m 336 #[.val (.long xw), .second, .val (.long xd), .second, .val (.long xf), .second, .val (.long xx), .second, .val (.long xv), .second, .val (.int xs), .val (.long bw), .second, .val (.long bd), .second, .val (.long bf), .second, .val (.long bx), .second, .val (.ref b14), .val (.ref b23), .val (.int sm), .val (.int (1 : Int32)), .val (.int r1_65), .val (.int r1_66), .val (.int r1_67), .val (.int r1_68), .val (.ref b69), .unset, .unset] [(.int (44 : Int32)), (.int (21 : Int32)), (.ref b78), (.ref b78)])) rfl rfl (hb hby at_336)
  refine own_go st171 ?_
  have CH172 := CHr.trans CH168 (CHr.wr W171 sf170 CH168.1)
  have le_171 : h167.size ≤ h171.size := Nat.le_of_eq W171.size.symm
  have K171 : Keep h0 h171 [] := Keep.wr K167 W171 (Or.inr sz85)
  have N171 := Fr.snoc X171 N167 ge84
  have V171 : Arv Z h171 b78 k78 .char (49 : Int32) [(.int (nar .char (81 : Int32))), (.int (nar .char (117 : Int32))), (.int (nar .char (101 : Int32))), (.int (nar .char (117 : Int32))), (.int (nar .char (101 : Int32))), (.int (nar .char (67 : Int32))), (.int (nar .char (111 : Int32))), (.int (nar .char (117 : Int32))), (.int (nar .char (110 : Int32))), (.int (nar .char (116 : Int32))), (.int (nar .char (115 : Int32))), (.int (nar .char (91 : Int32))), (.int (nar .char (119 : Int32))), (.int (nar .char (97 : Int32))), (.int (nar .char (105 : Int32))), (.int (nar .char (116 : Int32))), (.int (nar .char (105 : Int32))), (.int (nar .char (110 : Int32))), (.int (nar .char (103 : Int32))), (.int (nar .char (61 : Int32))), (.int (nar .char ((48 : Int32) + r1_65))), (.int (nar .char (44 : Int32))), (.int (0 : Int32)), (.int (0 : Int32)), (.int (0 : Int32)), (.int (0 : Int32)), (.int (0 : Int32)), (.int (0 : Int32)), (.int (0 : Int32)), (.int (0 : Int32)), (.int (0 : Int32)), (.int (0 : Int32)), (.int (0 : Int32)), (.int (0 : Int32)), (.int (0 : Int32)), (.int (0 : Int32)), (.int (0 : Int32)), (.int (0 : Int32)), (.int (0 : Int32)), (.int (0 : Int32)), (.int (0 : Int32)), (.int (0 : Int32)), (.int (0 : Int32)), (.int (0 : Int32)), (.int (0 : Int32)), (.int (0 : Int32)), (.int (0 : Int32)), (.int (0 : Int32)), (.int (0 : Int32))] (.int (0 : Int32)) := Arv.set Ar169 q169 S169 N169 H169 G169 (fits_nar_char _) W171 21 rfl (Nat.le_of_ble_eq_true rfl)
  refine own_go (fun _ => XS.dup X171.here hx rfl (hb hby at_337) rfl rfl) ?_
  refine own_go (fun _ => XS.bipush X171.here hx rfl (hb hby at_338)) ?_
  refine own_go (fun _ => XS.bipush X171.here hx rfl (hb hby at_340)) ?_
  obtain ⟨cl173, Ar173, q173, S173, N173, H173, G173⟩ := id V171
  have sf174 := Safe.arr (EL := own_EL) hZ.alike Ar173 (by decide)
  have hin173 : ¬ ((22 : Int32) < 0 ∨ cl173.slots.size ≤ ((22 : Int32)).toNatClampNeg) := inb_of S173 ⟨by decide, by decide⟩
  obtain ⟨T175, h175, X175, e175, W175, st175⟩ := stC X171 hx hZ e171 Ar173 (j := (22 : Int32)) hin173 (g := (mkF m 342 #[.val (.long xw), .second, .val (.long xd), .second, .val (.long xf), .second, .val (.long xx), .second, .val (.long xv), .second, .val (.int xs), .val (.long bw), .second, .val (.long bd), .second, .val (.long bf), .second, .val (.long bx), .second, .val (.ref b14), .val (.ref b23), .val (.int sm), .val (.int (1 : Int32)), .val (.int r1_65), .val (.int r1_66), .val (.int r1_67), .val (.int r1_68), .val (.ref b69), .unset, .unset] [(.int (32 : Int32)), (.int (22 : Int32)), (.ref b78), (.ref b78)])) rfl rfl (hb hby at_342)
  refine own_go st175 ?_
  have CH176 := CHr.trans CH172 (CHr.wr W175 sf174 CH172.1)
  have le_175 : h171.size ≤ h175.size := Nat.le_of_eq W175.size.symm
  have K175 : Keep h0 h175 [] := Keep.wr K171 W175 (Or.inr sz85)
  have N175 := Fr.snoc X175 N171 ge84
  have V175 : Arv Z h175 b78 k78 .char (49 : Int32) [(.int (nar .char (81 : Int32))), (.int (nar .char (117 : Int32))), (.int (nar .char (101 : Int32))), (.int (nar .char (117 : Int32))), (.int (nar .char (101 : Int32))), (.int (nar .char (67 : Int32))), (.int (nar .char (111 : Int32))), (.int (nar .char (117 : Int32))), (.int (nar .char (110 : Int32))), (.int (nar .char (116 : Int32))), (.int (nar .char (115 : Int32))), (.int (nar .char (91 : Int32))), (.int (nar .char (119 : Int32))), (.int (nar .char (97 : Int32))), (.int (nar .char (105 : Int32))), (.int (nar .char (116 : Int32))), (.int (nar .char (105 : Int32))), (.int (nar .char (110 : Int32))), (.int (nar .char (103 : Int32))), (.int (nar .char (61 : Int32))), (.int (nar .char ((48 : Int32) + r1_65))), (.int (nar .char (44 : Int32))), (.int (nar .char (32 : Int32))), (.int (0 : Int32)), (.int (0 : Int32)), (.int (0 : Int32)), (.int (0 : Int32)), (.int (0 : Int32)), (.int (0 : Int32)), (.int (0 : Int32)), (.int (0 : Int32)), (.int (0 : Int32)), (.int (0 : Int32)), (.int (0 : Int32)), (.int (0 : Int32)), (.int (0 : Int32)), (.int (0 : Int32)), (.int (0 : Int32)), (.int (0 : Int32)), (.int (0 : Int32)), (.int (0 : Int32)), (.int (0 : Int32)), (.int (0 : Int32)), (.int (0 : Int32)), (.int (0 : Int32)), (.int (0 : Int32)), (.int (0 : Int32)), (.int (0 : Int32)), (.int (0 : Int32))] (.int (0 : Int32)) := Arv.set Ar173 q173 S173 N173 H173 G173 (fits_nar_char _) W175 22 rfl (Nat.le_of_ble_eq_true rfl)
  show ∃ t o, Steps p.tables e below (T175.setTop (mkF m 343 #[.val (.long xw), .second, .val (.long xd), .second, .val (.long xf), .second, .val (.long xx), .second, .val (.long xv), .second, .val (.int xs), .val (.long bw), .second, .val (.long bd), .second, .val (.long bf), .second, .val (.long bx), .second, .val (.ref b14), .val (.ref b23), .val (.int sm), .val (.int (1 : Int32)), .val (.int r1_65), .val (.int r1_66), .val (.int r1_67), .val (.int r1_68), .val (.ref b69), .unset, .unset] [(.ref b78)])) t ∧ _
  refine own_go (fun _ => XS.dup X175.here hx rfl (hb hby at_343) rfl rfl) ?_
  refine own_go (fun _ => XS.bipush X175.here hx rfl (hb hby at_344)) ?_
  refine own_go (fun _ => XS.bipush X175.here hx rfl (hb hby at_346)) ?_
  obtain ⟨cl177, Ar177, q177, S177, N177, H177, G177⟩ := id V175
  have sf178 := Safe.arr (EL := own_EL) hZ.alike Ar177 (by decide)
  have hin177 : ¬ ((23 : Int32) < 0 ∨ cl177.slots.size ≤ ((23 : Int32)).toNatClampNeg) := inb_of S177 ⟨by decide, by decide⟩
  obtain ⟨T179, h179, X179, e179, W179, st179⟩ := stC X175 hx hZ e175 Ar177 (j := (23 : Int32)) hin177 (g := (mkF m 348 #[.val (.long xw), .second, .val (.long xd), .second, .val (.long xf), .second, .val (.long xx), .second, .val (.long xv), .second, .val (.int xs), .val (.long bw), .second, .val (.long bd), .second, .val (.long bf), .second, .val (.long bx), .second, .val (.ref b14), .val (.ref b23), .val (.int sm), .val (.int (1 : Int32)), .val (.int r1_65), .val (.int r1_66), .val (.int r1_67), .val (.int r1_68), .val (.ref b69), .unset, .unset] [(.int (100 : Int32)), (.int (23 : Int32)), (.ref b78), (.ref b78)])) rfl rfl (hb hby at_348)
  refine own_go st179 ?_
  have CH180 := CHr.trans CH176 (CHr.wr W179 sf178 CH176.1)
  have le_179 : h175.size ≤ h179.size := Nat.le_of_eq W179.size.symm
  have K179 : Keep h0 h179 [] := Keep.wr K175 W179 (Or.inr sz85)
  have N179 := Fr.snoc X179 N175 ge84
  have V179 : Arv Z h179 b78 k78 .char (49 : Int32) [(.int (nar .char (81 : Int32))), (.int (nar .char (117 : Int32))), (.int (nar .char (101 : Int32))), (.int (nar .char (117 : Int32))), (.int (nar .char (101 : Int32))), (.int (nar .char (67 : Int32))), (.int (nar .char (111 : Int32))), (.int (nar .char (117 : Int32))), (.int (nar .char (110 : Int32))), (.int (nar .char (116 : Int32))), (.int (nar .char (115 : Int32))), (.int (nar .char (91 : Int32))), (.int (nar .char (119 : Int32))), (.int (nar .char (97 : Int32))), (.int (nar .char (105 : Int32))), (.int (nar .char (116 : Int32))), (.int (nar .char (105 : Int32))), (.int (nar .char (110 : Int32))), (.int (nar .char (103 : Int32))), (.int (nar .char (61 : Int32))), (.int (nar .char ((48 : Int32) + r1_65))), (.int (nar .char (44 : Int32))), (.int (nar .char (32 : Int32))), (.int (nar .char (100 : Int32))), (.int (0 : Int32)), (.int (0 : Int32)), (.int (0 : Int32)), (.int (0 : Int32)), (.int (0 : Int32)), (.int (0 : Int32)), (.int (0 : Int32)), (.int (0 : Int32)), (.int (0 : Int32)), (.int (0 : Int32)), (.int (0 : Int32)), (.int (0 : Int32)), (.int (0 : Int32)), (.int (0 : Int32)), (.int (0 : Int32)), (.int (0 : Int32)), (.int (0 : Int32)), (.int (0 : Int32)), (.int (0 : Int32)), (.int (0 : Int32)), (.int (0 : Int32)), (.int (0 : Int32)), (.int (0 : Int32)), (.int (0 : Int32)), (.int (0 : Int32))] (.int (0 : Int32)) := Arv.set Ar177 q177 S177 N177 H177 G177 (fits_nar_char _) W179 23 rfl (Nat.le_of_ble_eq_true rfl)
  refine own_go (fun _ => XS.dup X179.here hx rfl (hb hby at_349) rfl rfl) ?_
  refine own_go (fun _ => XS.bipush X179.here hx rfl (hb hby at_350)) ?_
  refine own_go (fun _ => XS.bipush X179.here hx rfl (hb hby at_352)) ?_
  obtain ⟨cl181, Ar181, q181, S181, N181, H181, G181⟩ := id V179
  have sf182 := Safe.arr (EL := own_EL) hZ.alike Ar181 (by decide)
  have hin181 : ¬ ((24 : Int32) < 0 ∨ cl181.slots.size ≤ ((24 : Int32)).toNatClampNeg) := inb_of S181 ⟨by decide, by decide⟩
  obtain ⟨T183, h183, X183, e183, W183, st183⟩ := stC X179 hx hZ e179 Ar181 (j := (24 : Int32)) hin181 (g := (mkF m 354 #[.val (.long xw), .second, .val (.long xd), .second, .val (.long xf), .second, .val (.long xx), .second, .val (.long xv), .second, .val (.int xs), .val (.long bw), .second, .val (.long bd), .second, .val (.long bf), .second, .val (.long bx), .second, .val (.ref b14), .val (.ref b23), .val (.int sm), .val (.int (1 : Int32)), .val (.int r1_65), .val (.int r1_66), .val (.int r1_67), .val (.int r1_68), .val (.ref b69), .unset, .unset] [(.int (117 : Int32)), (.int (24 : Int32)), (.ref b78), (.ref b78)])) rfl rfl (hb hby at_354)
  refine own_go st183 ?_
  have CH184 := CHr.trans CH180 (CHr.wr W183 sf182 CH180.1)
  have le_183 : h179.size ≤ h183.size := Nat.le_of_eq W183.size.symm
  have K183 : Keep h0 h183 [] := Keep.wr K179 W183 (Or.inr sz85)
  have N183 := Fr.snoc X183 N179 ge84
  have V183 : Arv Z h183 b78 k78 .char (49 : Int32) [(.int (nar .char (81 : Int32))), (.int (nar .char (117 : Int32))), (.int (nar .char (101 : Int32))), (.int (nar .char (117 : Int32))), (.int (nar .char (101 : Int32))), (.int (nar .char (67 : Int32))), (.int (nar .char (111 : Int32))), (.int (nar .char (117 : Int32))), (.int (nar .char (110 : Int32))), (.int (nar .char (116 : Int32))), (.int (nar .char (115 : Int32))), (.int (nar .char (91 : Int32))), (.int (nar .char (119 : Int32))), (.int (nar .char (97 : Int32))), (.int (nar .char (105 : Int32))), (.int (nar .char (116 : Int32))), (.int (nar .char (105 : Int32))), (.int (nar .char (110 : Int32))), (.int (nar .char (103 : Int32))), (.int (nar .char (61 : Int32))), (.int (nar .char ((48 : Int32) + r1_65))), (.int (nar .char (44 : Int32))), (.int (nar .char (32 : Int32))), (.int (nar .char (100 : Int32))), (.int (nar .char (117 : Int32))), (.int (0 : Int32)), (.int (0 : Int32)), (.int (0 : Int32)), (.int (0 : Int32)), (.int (0 : Int32)), (.int (0 : Int32)), (.int (0 : Int32)), (.int (0 : Int32)), (.int (0 : Int32)), (.int (0 : Int32)), (.int (0 : Int32)), (.int (0 : Int32)), (.int (0 : Int32)), (.int (0 : Int32)), (.int (0 : Int32)), (.int (0 : Int32)), (.int (0 : Int32)), (.int (0 : Int32)), (.int (0 : Int32)), (.int (0 : Int32)), (.int (0 : Int32)), (.int (0 : Int32)), (.int (0 : Int32)), (.int (0 : Int32))] (.int (0 : Int32)) := Arv.set Ar181 q181 S181 N181 H181 G181 (fits_nar_char _) W183 24 rfl (Nat.le_of_ble_eq_true rfl)
  refine own_go (fun _ => XS.dup X183.here hx rfl (hb hby at_355) rfl rfl) ?_
  refine own_go (fun _ => XS.bipush X183.here hx rfl (hb hby at_356)) ?_
  show ∃ t o, Steps p.tables e below (T183.setTop (mkF m 358 #[.val (.long xw), .second, .val (.long xd), .second, .val (.long xf), .second, .val (.long xx), .second, .val (.long xv), .second, .val (.int xs), .val (.long bw), .second, .val (.long bd), .second, .val (.long bf), .second, .val (.long bx), .second, .val (.ref b14), .val (.ref b23), .val (.int sm), .val (.int (1 : Int32)), .val (.int r1_65), .val (.int r1_66), .val (.int r1_67), .val (.int r1_68), .val (.ref b69), .unset, .unset] [(.int (25 : Int32)), (.ref b78), (.ref b78)])) t ∧ _
  refine own_go (fun _ => XS.bipush X183.here hx rfl (hb hby at_358)) ?_
  obtain ⟨cl185, Ar185, q185, S185, N185, H185, G185⟩ := id V183
  have sf186 := Safe.arr (EL := own_EL) hZ.alike Ar185 (by decide)
  have hin185 : ¬ ((25 : Int32) < 0 ∨ cl185.slots.size ≤ ((25 : Int32)).toNatClampNeg) := inb_of S185 ⟨by decide, by decide⟩
  obtain ⟨T187, h187, X187, e187, W187, st187⟩ := stC X183 hx hZ e183 Ar185 (j := (25 : Int32)) hin185 (g := (mkF m 360 #[.val (.long xw), .second, .val (.long xd), .second, .val (.long xf), .second, .val (.long xx), .second, .val (.long xv), .second, .val (.int xs), .val (.long bw), .second, .val (.long bd), .second, .val (.long bf), .second, .val (.long bx), .second, .val (.ref b14), .val (.ref b23), .val (.int sm), .val (.int (1 : Int32)), .val (.int r1_65), .val (.int r1_66), .val (.int r1_67), .val (.int r1_68), .val (.ref b69), .unset, .unset] [(.int (101 : Int32)), (.int (25 : Int32)), (.ref b78), (.ref b78)])) rfl rfl (hb hby at_360)
  refine own_go st187 ?_
  have CH188 := CHr.trans CH184 (CHr.wr W187 sf186 CH184.1)
  have le_187 : h183.size ≤ h187.size := Nat.le_of_eq W187.size.symm
  have K187 : Keep h0 h187 [] := Keep.wr K183 W187 (Or.inr sz85)
  have N187 := Fr.snoc X187 N183 ge84
  have V187 : Arv Z h187 b78 k78 .char (49 : Int32) [(.int (nar .char (81 : Int32))), (.int (nar .char (117 : Int32))), (.int (nar .char (101 : Int32))), (.int (nar .char (117 : Int32))), (.int (nar .char (101 : Int32))), (.int (nar .char (67 : Int32))), (.int (nar .char (111 : Int32))), (.int (nar .char (117 : Int32))), (.int (nar .char (110 : Int32))), (.int (nar .char (116 : Int32))), (.int (nar .char (115 : Int32))), (.int (nar .char (91 : Int32))), (.int (nar .char (119 : Int32))), (.int (nar .char (97 : Int32))), (.int (nar .char (105 : Int32))), (.int (nar .char (116 : Int32))), (.int (nar .char (105 : Int32))), (.int (nar .char (110 : Int32))), (.int (nar .char (103 : Int32))), (.int (nar .char (61 : Int32))), (.int (nar .char ((48 : Int32) + r1_65))), (.int (nar .char (44 : Int32))), (.int (nar .char (32 : Int32))), (.int (nar .char (100 : Int32))), (.int (nar .char (117 : Int32))), (.int (nar .char (101 : Int32))), (.int (0 : Int32)), (.int (0 : Int32)), (.int (0 : Int32)), (.int (0 : Int32)), (.int (0 : Int32)), (.int (0 : Int32)), (.int (0 : Int32)), (.int (0 : Int32)), (.int (0 : Int32)), (.int (0 : Int32)), (.int (0 : Int32)), (.int (0 : Int32)), (.int (0 : Int32)), (.int (0 : Int32)), (.int (0 : Int32)), (.int (0 : Int32)), (.int (0 : Int32)), (.int (0 : Int32)), (.int (0 : Int32)), (.int (0 : Int32)), (.int (0 : Int32)), (.int (0 : Int32)), (.int (0 : Int32))] (.int (0 : Int32)) := Arv.set Ar185 q185 S185 N185 H185 G185 (fits_nar_char _) W187 25 rfl (Nat.le_of_ble_eq_true rfl)
  refine own_go (fun _ => XS.dup X187.here hx rfl (hb hby at_361) rfl rfl) ?_
  refine own_go (fun _ => XS.bipush X187.here hx rfl (hb hby at_362)) ?_
  refine own_go (fun _ => XS.bipush X187.here hx rfl (hb hby at_364)) ?_
  obtain ⟨cl189, Ar189, q189, S189, N189, H189, G189⟩ := id V187
  have sf190 := Safe.arr (EL := own_EL) hZ.alike Ar189 (by decide)
  have hin189 : ¬ ((26 : Int32) < 0 ∨ cl189.slots.size ≤ ((26 : Int32)).toNatClampNeg) := inb_of S189 ⟨by decide, by decide⟩
  obtain ⟨T191, h191, X191, e191, W191, st191⟩ := stC X187 hx hZ e187 Ar189 (j := (26 : Int32)) hin189 (g := (mkF m 366 #[.val (.long xw), .second, .val (.long xd), .second, .val (.long xf), .second, .val (.long xx), .second, .val (.long xv), .second, .val (.int xs), .val (.long bw), .second, .val (.long bd), .second, .val (.long bf), .second, .val (.long bx), .second, .val (.ref b14), .val (.ref b23), .val (.int sm), .val (.int (1 : Int32)), .val (.int r1_65), .val (.int r1_66), .val (.int r1_67), .val (.int r1_68), .val (.ref b69), .unset, .unset] [(.int (61 : Int32)), (.int (26 : Int32)), (.ref b78), (.ref b78)])) rfl rfl (hb hby at_366)
  refine own_go st191 ?_
  have CH192 := CHr.trans CH188 (CHr.wr W191 sf190 CH188.1)
  have le_191 : h187.size ≤ h191.size := Nat.le_of_eq W191.size.symm
  have K191 : Keep h0 h191 [] := Keep.wr K187 W191 (Or.inr sz85)
  have N191 := Fr.snoc X191 N187 ge84
  have V191 : Arv Z h191 b78 k78 .char (49 : Int32) [(.int (nar .char (81 : Int32))), (.int (nar .char (117 : Int32))), (.int (nar .char (101 : Int32))), (.int (nar .char (117 : Int32))), (.int (nar .char (101 : Int32))), (.int (nar .char (67 : Int32))), (.int (nar .char (111 : Int32))), (.int (nar .char (117 : Int32))), (.int (nar .char (110 : Int32))), (.int (nar .char (116 : Int32))), (.int (nar .char (115 : Int32))), (.int (nar .char (91 : Int32))), (.int (nar .char (119 : Int32))), (.int (nar .char (97 : Int32))), (.int (nar .char (105 : Int32))), (.int (nar .char (116 : Int32))), (.int (nar .char (105 : Int32))), (.int (nar .char (110 : Int32))), (.int (nar .char (103 : Int32))), (.int (nar .char (61 : Int32))), (.int (nar .char ((48 : Int32) + r1_65))), (.int (nar .char (44 : Int32))), (.int (nar .char (32 : Int32))), (.int (nar .char (100 : Int32))), (.int (nar .char (117 : Int32))), (.int (nar .char (101 : Int32))), (.int (nar .char (61 : Int32))), (.int (0 : Int32)), (.int (0 : Int32)), (.int (0 : Int32)), (.int (0 : Int32)), (.int (0 : Int32)), (.int (0 : Int32)), (.int (0 : Int32)), (.int (0 : Int32)), (.int (0 : Int32)), (.int (0 : Int32)), (.int (0 : Int32)), (.int (0 : Int32)), (.int (0 : Int32)), (.int (0 : Int32)), (.int (0 : Int32)), (.int (0 : Int32)), (.int (0 : Int32)), (.int (0 : Int32)), (.int (0 : Int32)), (.int (0 : Int32)), (.int (0 : Int32)), (.int (0 : Int32))] (.int (0 : Int32)) := Arv.set Ar189 q189 S189 N189 H189 G189 (fits_nar_char _) W191 26 rfl (Nat.le_of_ble_eq_true rfl)
  refine own_go (fun _ => XS.dup X191.here hx rfl (hb hby at_367) rfl rfl) ?_
  refine own_go (fun _ => XS.bipush X191.here hx rfl (hb hby at_368)) ?_
  refine own_go (fun _ => XS.iload X191.here hx rfl (hb hby at_370) rfl) ?_
  show ∃ t o, Steps p.tables e below (T191.setTop (mkF m 372 #[.val (.long xw), .second, .val (.long xd), .second, .val (.long xf), .second, .val (.long xx), .second, .val (.long xv), .second, .val (.int xs), .val (.long bw), .second, .val (.long bd), .second, .val (.long bf), .second, .val (.long bx), .second, .val (.ref b14), .val (.ref b23), .val (.int sm), .val (.int (1 : Int32)), .val (.int r1_65), .val (.int r1_66), .val (.int r1_67), .val (.int r1_68), .val (.ref b69), .unset, .unset] [(.int r1_66), (.int (27 : Int32)), (.ref b78), (.ref b78)])) t ∧ _
  have F193 := (Old.wr (Old.wr (Old.wr (Old.wr (Old.wr (Old.wr (Old.wr F162 W167 ge84) W171 ge84) W175 ge84) W179 ge84) W183 ge84) W187 ge84) W191 ge84)
  have zl194 : n0 ≤ h191.size := by omega
  obtain ⟨_, _, ⟨T195, L195, k195, n195⟩, -, X195, ⟨Lc195, hQ195, l195, y195, z195⟩, st195⟩ := Jvm.LawKit.callS X191 hx (y := (⟨"com/example/libtardy/libtardy/QueueCountsToStringPinLaw", "ch", "(I)C"⟩ : MethodName)) hown (mvT hZ w_206) (mvT hZ w_207) (mvT hZ w_202) (mvT hZ w_208) (by decide) (backOf (W := 3) (rmCh l Z a0 hw [] r1_66 h191 n0 zl194 F193 (H66_0 : own_d9 r1_66)) hZ w_208 w_202 (by decide) (by decide)) (g := (mkF m 372 #[.val (.long xw), .second, .val (.long xd), .second, .val (.long xf), .second, .val (.long xx), .second, .val (.long xv), .second, .val (.int xs), .val (.long bw), .second, .val (.long bd), .second, .val (.long bf), .second, .val (.long bx), .second, .val (.ref b14), .val (.ref b23), .val (.int sm), .val (.int (1 : Int32)), .val (.int r1_65), .val (.int r1_66), .val (.int r1_67), .val (.int r1_68), .val (.ref b69), .unset, .unset] [(.int r1_66), (.int (27 : Int32)), (.ref b78), (.ref b78)])) rfl (by rw [hml]; rfl) (argsL := [(.int r1_66)]) (rest := [(.int (27 : Int32)), (.ref b78), (.ref b78)]) (lenOf pd__28I_29C rfl) rfl (by show 2 * 0 + _ ≤ _; exact Nat.le_of_eq rfl) (hb hby at_372) (fun _ _ => ⟨rfl, e191, (by decide : 48 + 0 ≤ _), (by decide : 3065 + 0 ≤ _)⟩)
  dsimp only [Pt.U, Pt.locs, Pt.cells, Pt.slots] at X195 l195 y195 z195 st195 hQ195
  rw [l195, y195, z195] at X195
  obtain ⟨rfl, Nq195, e195⟩ := hQ195
  have N195 := Fr.app N191 Nq195
  refine own_go st195 ?_
  obtain ⟨cl196, Ar196, q196, S196, N196, H196, G196⟩ := id V191
  have sf197 := Safe.arr (EL := own_EL) hZ.alike Ar196 (by decide)
  have hin196 : ¬ ((27 : Int32) < 0 ∨ cl196.slots.size ≤ ((27 : Int32)).toNatClampNeg) := inb_of S196 ⟨by decide, by decide⟩
  obtain ⟨T198, h198, X198, e198, W198, st198⟩ := stC X195 hx hZ e195 Ar196 (j := (27 : Int32)) hin196 (g := (mkF m 375 #[.val (.long xw), .second, .val (.long xd), .second, .val (.long xf), .second, .val (.long xx), .second, .val (.long xv), .second, .val (.int xs), .val (.long bw), .second, .val (.long bd), .second, .val (.long bf), .second, .val (.long bx), .second, .val (.ref b14), .val (.ref b23), .val (.int sm), .val (.int (1 : Int32)), .val (.int r1_65), .val (.int r1_66), .val (.int r1_67), .val (.int r1_68), .val (.ref b69), .unset, .unset] [(.int ((48 : Int32) + r1_66)), (.int (27 : Int32)), (.ref b78), (.ref b78)])) rfl rfl (hb hby at_375)
  refine own_go st198 ?_
  have CH199 := CHr.trans CH192 (CHr.wr W198 sf197 CH192.1)
  have le_198 : h191.size ≤ h198.size := Nat.le_of_eq W198.size.symm
  have K198 : Keep h0 h198 [] := Keep.wr K191 W198 (Or.inr sz85)
  have N198 := Fr.snoc X198 N195 ge84
  have V198 : Arv Z h198 b78 k78 .char (49 : Int32) [(.int (nar .char (81 : Int32))), (.int (nar .char (117 : Int32))), (.int (nar .char (101 : Int32))), (.int (nar .char (117 : Int32))), (.int (nar .char (101 : Int32))), (.int (nar .char (67 : Int32))), (.int (nar .char (111 : Int32))), (.int (nar .char (117 : Int32))), (.int (nar .char (110 : Int32))), (.int (nar .char (116 : Int32))), (.int (nar .char (115 : Int32))), (.int (nar .char (91 : Int32))), (.int (nar .char (119 : Int32))), (.int (nar .char (97 : Int32))), (.int (nar .char (105 : Int32))), (.int (nar .char (116 : Int32))), (.int (nar .char (105 : Int32))), (.int (nar .char (110 : Int32))), (.int (nar .char (103 : Int32))), (.int (nar .char (61 : Int32))), (.int (nar .char ((48 : Int32) + r1_65))), (.int (nar .char (44 : Int32))), (.int (nar .char (32 : Int32))), (.int (nar .char (100 : Int32))), (.int (nar .char (117 : Int32))), (.int (nar .char (101 : Int32))), (.int (nar .char (61 : Int32))), (.int (nar .char ((48 : Int32) + r1_66))), (.int (0 : Int32)), (.int (0 : Int32)), (.int (0 : Int32)), (.int (0 : Int32)), (.int (0 : Int32)), (.int (0 : Int32)), (.int (0 : Int32)), (.int (0 : Int32)), (.int (0 : Int32)), (.int (0 : Int32)), (.int (0 : Int32)), (.int (0 : Int32)), (.int (0 : Int32)), (.int (0 : Int32)), (.int (0 : Int32)), (.int (0 : Int32)), (.int (0 : Int32)), (.int (0 : Int32)), (.int (0 : Int32)), (.int (0 : Int32)), (.int (0 : Int32))] (.int (0 : Int32)) := Arv.set Ar196 q196 S196 N196 H196 G196 (fits_nar_char _) W198 27 rfl (Nat.le_of_ble_eq_true rfl)
  refine own_go (fun _ => XS.dup X198.here hx rfl (hb hby at_376) rfl rfl) ?_
  refine own_go (fun _ => XS.bipush X198.here hx rfl (hb hby at_377)) ?_
  refine own_go (fun _ => XS.bipush X198.here hx rfl (hb hby at_379)) ?_
  obtain ⟨cl200, Ar200, q200, S200, N200, H200, G200⟩ := id V198
  have sf201 := Safe.arr (EL := own_EL) hZ.alike Ar200 (by decide)
  have hin200 : ¬ ((28 : Int32) < 0 ∨ cl200.slots.size ≤ ((28 : Int32)).toNatClampNeg) := inb_of S200 ⟨by decide, by decide⟩
  obtain ⟨T202, h202, X202, e202, W202, st202⟩ := stC X198 hx hZ e198 Ar200 (j := (28 : Int32)) hin200 (g := (mkF m 381 #[.val (.long xw), .second, .val (.long xd), .second, .val (.long xf), .second, .val (.long xx), .second, .val (.long xv), .second, .val (.int xs), .val (.long bw), .second, .val (.long bd), .second, .val (.long bf), .second, .val (.long bx), .second, .val (.ref b14), .val (.ref b23), .val (.int sm), .val (.int (1 : Int32)), .val (.int r1_65), .val (.int r1_66), .val (.int r1_67), .val (.int r1_68), .val (.ref b69), .unset, .unset] [(.int (44 : Int32)), (.int (28 : Int32)), (.ref b78), (.ref b78)])) rfl rfl (hb hby at_381)
  refine own_go st202 ?_
  have CH203 := CHr.trans CH199 (CHr.wr W202 sf201 CH199.1)
  have le_202 : h198.size ≤ h202.size := Nat.le_of_eq W202.size.symm
  have K202 : Keep h0 h202 [] := Keep.wr K198 W202 (Or.inr sz85)
  have N202 := Fr.snoc X202 N198 ge84
  have V202 : Arv Z h202 b78 k78 .char (49 : Int32) [(.int (nar .char (81 : Int32))), (.int (nar .char (117 : Int32))), (.int (nar .char (101 : Int32))), (.int (nar .char (117 : Int32))), (.int (nar .char (101 : Int32))), (.int (nar .char (67 : Int32))), (.int (nar .char (111 : Int32))), (.int (nar .char (117 : Int32))), (.int (nar .char (110 : Int32))), (.int (nar .char (116 : Int32))), (.int (nar .char (115 : Int32))), (.int (nar .char (91 : Int32))), (.int (nar .char (119 : Int32))), (.int (nar .char (97 : Int32))), (.int (nar .char (105 : Int32))), (.int (nar .char (116 : Int32))), (.int (nar .char (105 : Int32))), (.int (nar .char (110 : Int32))), (.int (nar .char (103 : Int32))), (.int (nar .char (61 : Int32))), (.int (nar .char ((48 : Int32) + r1_65))), (.int (nar .char (44 : Int32))), (.int (nar .char (32 : Int32))), (.int (nar .char (100 : Int32))), (.int (nar .char (117 : Int32))), (.int (nar .char (101 : Int32))), (.int (nar .char (61 : Int32))), (.int (nar .char ((48 : Int32) + r1_66))), (.int (nar .char (44 : Int32))), (.int (0 : Int32)), (.int (0 : Int32)), (.int (0 : Int32)), (.int (0 : Int32)), (.int (0 : Int32)), (.int (0 : Int32)), (.int (0 : Int32)), (.int (0 : Int32)), (.int (0 : Int32)), (.int (0 : Int32)), (.int (0 : Int32)), (.int (0 : Int32)), (.int (0 : Int32)), (.int (0 : Int32)), (.int (0 : Int32)), (.int (0 : Int32)), (.int (0 : Int32)), (.int (0 : Int32)), (.int (0 : Int32)), (.int (0 : Int32))] (.int (0 : Int32)) := Arv.set Ar200 q200 S200 N200 H200 G200 (fits_nar_char _) W202 28 rfl (Nat.le_of_ble_eq_true rfl)
  refine own_go (fun _ => XS.dup X202.here hx rfl (hb hby at_382) rfl rfl) ?_
  refine own_go (fun _ => XS.bipush X202.here hx rfl (hb hby at_383)) ?_
  refine own_go (fun _ => XS.bipush X202.here hx rfl (hb hby at_385)) ?_
  obtain ⟨cl204, Ar204, q204, S204, N204, H204, G204⟩ := id V202
  have sf205 := Safe.arr (EL := own_EL) hZ.alike Ar204 (by decide)
  have hin204 : ¬ ((29 : Int32) < 0 ∨ cl204.slots.size ≤ ((29 : Int32)).toNatClampNeg) := inb_of S204 ⟨by decide, by decide⟩
  obtain ⟨T206, h206, X206, e206, W206, st206⟩ := stC X202 hx hZ e202 Ar204 (j := (29 : Int32)) hin204 (g := (mkF m 387 #[.val (.long xw), .second, .val (.long xd), .second, .val (.long xf), .second, .val (.long xx), .second, .val (.long xv), .second, .val (.int xs), .val (.long bw), .second, .val (.long bd), .second, .val (.long bf), .second, .val (.long bx), .second, .val (.ref b14), .val (.ref b23), .val (.int sm), .val (.int (1 : Int32)), .val (.int r1_65), .val (.int r1_66), .val (.int r1_67), .val (.int r1_68), .val (.ref b69), .unset, .unset] [(.int (32 : Int32)), (.int (29 : Int32)), (.ref b78), (.ref b78)])) rfl rfl (hb hby at_387)
  refine own_go st206 ?_
  have CH207 := CHr.trans CH203 (CHr.wr W206 sf205 CH203.1)
  have le_206 : h202.size ≤ h206.size := Nat.le_of_eq W206.size.symm
  have K206 : Keep h0 h206 [] := Keep.wr K202 W206 (Or.inr sz85)
  have N206 := Fr.snoc X206 N202 ge84
  have V206 : Arv Z h206 b78 k78 .char (49 : Int32) [(.int (nar .char (81 : Int32))), (.int (nar .char (117 : Int32))), (.int (nar .char (101 : Int32))), (.int (nar .char (117 : Int32))), (.int (nar .char (101 : Int32))), (.int (nar .char (67 : Int32))), (.int (nar .char (111 : Int32))), (.int (nar .char (117 : Int32))), (.int (nar .char (110 : Int32))), (.int (nar .char (116 : Int32))), (.int (nar .char (115 : Int32))), (.int (nar .char (91 : Int32))), (.int (nar .char (119 : Int32))), (.int (nar .char (97 : Int32))), (.int (nar .char (105 : Int32))), (.int (nar .char (116 : Int32))), (.int (nar .char (105 : Int32))), (.int (nar .char (110 : Int32))), (.int (nar .char (103 : Int32))), (.int (nar .char (61 : Int32))), (.int (nar .char ((48 : Int32) + r1_65))), (.int (nar .char (44 : Int32))), (.int (nar .char (32 : Int32))), (.int (nar .char (100 : Int32))), (.int (nar .char (117 : Int32))), (.int (nar .char (101 : Int32))), (.int (nar .char (61 : Int32))), (.int (nar .char ((48 : Int32) + r1_66))), (.int (nar .char (44 : Int32))), (.int (nar .char (32 : Int32))), (.int (0 : Int32)), (.int (0 : Int32)), (.int (0 : Int32)), (.int (0 : Int32)), (.int (0 : Int32)), (.int (0 : Int32)), (.int (0 : Int32)), (.int (0 : Int32)), (.int (0 : Int32)), (.int (0 : Int32)), (.int (0 : Int32)), (.int (0 : Int32)), (.int (0 : Int32)), (.int (0 : Int32)), (.int (0 : Int32)), (.int (0 : Int32)), (.int (0 : Int32)), (.int (0 : Int32)), (.int (0 : Int32))] (.int (0 : Int32)) := Arv.set Ar204 q204 S204 N204 H204 G204 (fits_nar_char _) W206 29 rfl (Nat.le_of_ble_eq_true rfl)
  show ∃ t o, Steps p.tables e below (T206.setTop (mkF m 388 #[.val (.long xw), .second, .val (.long xd), .second, .val (.long xf), .second, .val (.long xx), .second, .val (.long xv), .second, .val (.int xs), .val (.long bw), .second, .val (.long bd), .second, .val (.long bf), .second, .val (.long bx), .second, .val (.ref b14), .val (.ref b23), .val (.int sm), .val (.int (1 : Int32)), .val (.int r1_65), .val (.int r1_66), .val (.int r1_67), .val (.int r1_68), .val (.ref b69), .unset, .unset] [(.ref b78)])) t ∧ _
  refine own_go (fun _ => XS.dup X206.here hx rfl (hb hby at_388) rfl rfl) ?_
  refine own_go (fun _ => XS.bipush X206.here hx rfl (hb hby at_389)) ?_
  refine own_go (fun _ => XS.bipush X206.here hx rfl (hb hby at_391)) ?_
  obtain ⟨cl208, Ar208, q208, S208, N208, H208, G208⟩ := id V206
  have sf209 := Safe.arr (EL := own_EL) hZ.alike Ar208 (by decide)
  have hin208 : ¬ ((30 : Int32) < 0 ∨ cl208.slots.size ≤ ((30 : Int32)).toNatClampNeg) := inb_of S208 ⟨by decide, by decide⟩
  obtain ⟨T210, h210, X210, e210, W210, st210⟩ := stC X206 hx hZ e206 Ar208 (j := (30 : Int32)) hin208 (g := (mkF m 393 #[.val (.long xw), .second, .val (.long xd), .second, .val (.long xf), .second, .val (.long xx), .second, .val (.long xv), .second, .val (.int xs), .val (.long bw), .second, .val (.long bd), .second, .val (.long bf), .second, .val (.long bx), .second, .val (.ref b14), .val (.ref b23), .val (.int sm), .val (.int (1 : Int32)), .val (.int r1_65), .val (.int r1_66), .val (.int r1_67), .val (.int r1_68), .val (.ref b69), .unset, .unset] [(.int (105 : Int32)), (.int (30 : Int32)), (.ref b78), (.ref b78)])) rfl rfl (hb hby at_393)
  refine own_go st210 ?_
  have CH211 := CHr.trans CH207 (CHr.wr W210 sf209 CH207.1)
  have le_210 : h206.size ≤ h210.size := Nat.le_of_eq W210.size.symm
  have K210 : Keep h0 h210 [] := Keep.wr K206 W210 (Or.inr sz85)
  have N210 := Fr.snoc X210 N206 ge84
  have V210 : Arv Z h210 b78 k78 .char (49 : Int32) [(.int (nar .char (81 : Int32))), (.int (nar .char (117 : Int32))), (.int (nar .char (101 : Int32))), (.int (nar .char (117 : Int32))), (.int (nar .char (101 : Int32))), (.int (nar .char (67 : Int32))), (.int (nar .char (111 : Int32))), (.int (nar .char (117 : Int32))), (.int (nar .char (110 : Int32))), (.int (nar .char (116 : Int32))), (.int (nar .char (115 : Int32))), (.int (nar .char (91 : Int32))), (.int (nar .char (119 : Int32))), (.int (nar .char (97 : Int32))), (.int (nar .char (105 : Int32))), (.int (nar .char (116 : Int32))), (.int (nar .char (105 : Int32))), (.int (nar .char (110 : Int32))), (.int (nar .char (103 : Int32))), (.int (nar .char (61 : Int32))), (.int (nar .char ((48 : Int32) + r1_65))), (.int (nar .char (44 : Int32))), (.int (nar .char (32 : Int32))), (.int (nar .char (100 : Int32))), (.int (nar .char (117 : Int32))), (.int (nar .char (101 : Int32))), (.int (nar .char (61 : Int32))), (.int (nar .char ((48 : Int32) + r1_66))), (.int (nar .char (44 : Int32))), (.int (nar .char (32 : Int32))), (.int (nar .char (105 : Int32))), (.int (0 : Int32)), (.int (0 : Int32)), (.int (0 : Int32)), (.int (0 : Int32)), (.int (0 : Int32)), (.int (0 : Int32)), (.int (0 : Int32)), (.int (0 : Int32)), (.int (0 : Int32)), (.int (0 : Int32)), (.int (0 : Int32)), (.int (0 : Int32)), (.int (0 : Int32)), (.int (0 : Int32)), (.int (0 : Int32)), (.int (0 : Int32)), (.int (0 : Int32)), (.int (0 : Int32))] (.int (0 : Int32)) := Arv.set Ar208 q208 S208 N208 H208 G208 (fits_nar_char _) W210 30 rfl (Nat.le_of_ble_eq_true rfl)
  refine own_go (fun _ => XS.dup X210.here hx rfl (hb hby at_394) rfl rfl) ?_
  refine own_go (fun _ => XS.bipush X210.here hx rfl (hb hby at_395)) ?_
  refine own_go (fun _ => XS.bipush X210.here hx rfl (hb hby at_397)) ?_
  obtain ⟨cl212, Ar212, q212, S212, N212, H212, G212⟩ := id V210
  have sf213 := Safe.arr (EL := own_EL) hZ.alike Ar212 (by decide)
  have hin212 : ¬ ((31 : Int32) < 0 ∨ cl212.slots.size ≤ ((31 : Int32)).toNatClampNeg) := inb_of S212 ⟨by decide, by decide⟩
  obtain ⟨T214, h214, X214, e214, W214, st214⟩ := stC X210 hx hZ e210 Ar212 (j := (31 : Int32)) hin212 (g := (mkF m 399 #[.val (.long xw), .second, .val (.long xd), .second, .val (.long xf), .second, .val (.long xx), .second, .val (.long xv), .second, .val (.int xs), .val (.long bw), .second, .val (.long bd), .second, .val (.long bf), .second, .val (.long bx), .second, .val (.ref b14), .val (.ref b23), .val (.int sm), .val (.int (1 : Int32)), .val (.int r1_65), .val (.int r1_66), .val (.int r1_67), .val (.int r1_68), .val (.ref b69), .unset, .unset] [(.int (110 : Int32)), (.int (31 : Int32)), (.ref b78), (.ref b78)])) rfl rfl (hb hby at_399)
  refine own_go st214 ?_
  have CH215 := CHr.trans CH211 (CHr.wr W214 sf213 CH211.1)
  have le_214 : h210.size ≤ h214.size := Nat.le_of_eq W214.size.symm
  have K214 : Keep h0 h214 [] := Keep.wr K210 W214 (Or.inr sz85)
  have N214 := Fr.snoc X214 N210 ge84
  have V214 : Arv Z h214 b78 k78 .char (49 : Int32) [(.int (nar .char (81 : Int32))), (.int (nar .char (117 : Int32))), (.int (nar .char (101 : Int32))), (.int (nar .char (117 : Int32))), (.int (nar .char (101 : Int32))), (.int (nar .char (67 : Int32))), (.int (nar .char (111 : Int32))), (.int (nar .char (117 : Int32))), (.int (nar .char (110 : Int32))), (.int (nar .char (116 : Int32))), (.int (nar .char (115 : Int32))), (.int (nar .char (91 : Int32))), (.int (nar .char (119 : Int32))), (.int (nar .char (97 : Int32))), (.int (nar .char (105 : Int32))), (.int (nar .char (116 : Int32))), (.int (nar .char (105 : Int32))), (.int (nar .char (110 : Int32))), (.int (nar .char (103 : Int32))), (.int (nar .char (61 : Int32))), (.int (nar .char ((48 : Int32) + r1_65))), (.int (nar .char (44 : Int32))), (.int (nar .char (32 : Int32))), (.int (nar .char (100 : Int32))), (.int (nar .char (117 : Int32))), (.int (nar .char (101 : Int32))), (.int (nar .char (61 : Int32))), (.int (nar .char ((48 : Int32) + r1_66))), (.int (nar .char (44 : Int32))), (.int (nar .char (32 : Int32))), (.int (nar .char (105 : Int32))), (.int (nar .char (110 : Int32))), (.int (0 : Int32)), (.int (0 : Int32)), (.int (0 : Int32)), (.int (0 : Int32)), (.int (0 : Int32)), (.int (0 : Int32)), (.int (0 : Int32)), (.int (0 : Int32)), (.int (0 : Int32)), (.int (0 : Int32)), (.int (0 : Int32)), (.int (0 : Int32)), (.int (0 : Int32)), (.int (0 : Int32)), (.int (0 : Int32)), (.int (0 : Int32)), (.int (0 : Int32))] (.int (0 : Int32)) := Arv.set Ar212 q212 S212 N212 H212 G212 (fits_nar_char _) W214 31 rfl (Nat.le_of_ble_eq_true rfl)
  refine own_go (fun _ => XS.dup X214.here hx rfl (hb hby at_400) rfl rfl) ?_
  refine own_go (fun _ => XS.bipush X214.here hx rfl (hb hby at_401)) ?_
  show ∃ t o, Steps p.tables e below (T214.setTop (mkF m 403 #[.val (.long xw), .second, .val (.long xd), .second, .val (.long xf), .second, .val (.long xx), .second, .val (.long xv), .second, .val (.int xs), .val (.long bw), .second, .val (.long bd), .second, .val (.long bf), .second, .val (.long bx), .second, .val (.ref b14), .val (.ref b23), .val (.int sm), .val (.int (1 : Int32)), .val (.int r1_65), .val (.int r1_66), .val (.int r1_67), .val (.int r1_68), .val (.ref b69), .unset, .unset] [(.int (32 : Int32)), (.ref b78), (.ref b78)])) t ∧ _
  refine own_go (fun _ => XS.bipush X214.here hx rfl (hb hby at_403)) ?_
  obtain ⟨cl216, Ar216, q216, S216, N216, H216, G216⟩ := id V214
  have sf217 := Safe.arr (EL := own_EL) hZ.alike Ar216 (by decide)
  have hin216 : ¬ ((32 : Int32) < 0 ∨ cl216.slots.size ≤ ((32 : Int32)).toNatClampNeg) := inb_of S216 ⟨by decide, by decide⟩
  obtain ⟨T218, h218, X218, e218, W218, st218⟩ := stC X214 hx hZ e214 Ar216 (j := (32 : Int32)) hin216 (g := (mkF m 405 #[.val (.long xw), .second, .val (.long xd), .second, .val (.long xf), .second, .val (.long xx), .second, .val (.long xv), .second, .val (.int xs), .val (.long bw), .second, .val (.long bd), .second, .val (.long bf), .second, .val (.long bx), .second, .val (.ref b14), .val (.ref b23), .val (.int sm), .val (.int (1 : Int32)), .val (.int r1_65), .val (.int r1_66), .val (.int r1_67), .val (.int r1_68), .val (.ref b69), .unset, .unset] [(.int (70 : Int32)), (.int (32 : Int32)), (.ref b78), (.ref b78)])) rfl rfl (hb hby at_405)
  refine own_go st218 ?_
  have CH219 := CHr.trans CH215 (CHr.wr W218 sf217 CH215.1)
  have le_218 : h214.size ≤ h218.size := Nat.le_of_eq W218.size.symm
  have K218 : Keep h0 h218 [] := Keep.wr K214 W218 (Or.inr sz85)
  have N218 := Fr.snoc X218 N214 ge84
  have V218 : Arv Z h218 b78 k78 .char (49 : Int32) [(.int (nar .char (81 : Int32))), (.int (nar .char (117 : Int32))), (.int (nar .char (101 : Int32))), (.int (nar .char (117 : Int32))), (.int (nar .char (101 : Int32))), (.int (nar .char (67 : Int32))), (.int (nar .char (111 : Int32))), (.int (nar .char (117 : Int32))), (.int (nar .char (110 : Int32))), (.int (nar .char (116 : Int32))), (.int (nar .char (115 : Int32))), (.int (nar .char (91 : Int32))), (.int (nar .char (119 : Int32))), (.int (nar .char (97 : Int32))), (.int (nar .char (105 : Int32))), (.int (nar .char (116 : Int32))), (.int (nar .char (105 : Int32))), (.int (nar .char (110 : Int32))), (.int (nar .char (103 : Int32))), (.int (nar .char (61 : Int32))), (.int (nar .char ((48 : Int32) + r1_65))), (.int (nar .char (44 : Int32))), (.int (nar .char (32 : Int32))), (.int (nar .char (100 : Int32))), (.int (nar .char (117 : Int32))), (.int (nar .char (101 : Int32))), (.int (nar .char (61 : Int32))), (.int (nar .char ((48 : Int32) + r1_66))), (.int (nar .char (44 : Int32))), (.int (nar .char (32 : Int32))), (.int (nar .char (105 : Int32))), (.int (nar .char (110 : Int32))), (.int (nar .char (70 : Int32))), (.int (0 : Int32)), (.int (0 : Int32)), (.int (0 : Int32)), (.int (0 : Int32)), (.int (0 : Int32)), (.int (0 : Int32)), (.int (0 : Int32)), (.int (0 : Int32)), (.int (0 : Int32)), (.int (0 : Int32)), (.int (0 : Int32)), (.int (0 : Int32)), (.int (0 : Int32)), (.int (0 : Int32)), (.int (0 : Int32)), (.int (0 : Int32))] (.int (0 : Int32)) := Arv.set Ar216 q216 S216 N216 H216 G216 (fits_nar_char _) W218 32 rfl (Nat.le_of_ble_eq_true rfl)
  refine own_go (fun _ => XS.dup X218.here hx rfl (hb hby at_406) rfl rfl) ?_
  refine own_go (fun _ => XS.bipush X218.here hx rfl (hb hby at_407)) ?_
  refine own_go (fun _ => XS.bipush X218.here hx rfl (hb hby at_409)) ?_
  obtain ⟨cl220, Ar220, q220, S220, N220, H220, G220⟩ := id V218
  have sf221 := Safe.arr (EL := own_EL) hZ.alike Ar220 (by decide)
  have hin220 : ¬ ((33 : Int32) < 0 ∨ cl220.slots.size ≤ ((33 : Int32)).toNatClampNeg) := inb_of S220 ⟨by decide, by decide⟩
  obtain ⟨T222, h222, X222, e222, W222, st222⟩ := stC X218 hx hZ e218 Ar220 (j := (33 : Int32)) hin220 (g := (mkF m 411 #[.val (.long xw), .second, .val (.long xd), .second, .val (.long xf), .second, .val (.long xx), .second, .val (.long xv), .second, .val (.int xs), .val (.long bw), .second, .val (.long bd), .second, .val (.long bf), .second, .val (.long bx), .second, .val (.ref b14), .val (.ref b23), .val (.int sm), .val (.int (1 : Int32)), .val (.int r1_65), .val (.int r1_66), .val (.int r1_67), .val (.int r1_68), .val (.ref b69), .unset, .unset] [(.int (108 : Int32)), (.int (33 : Int32)), (.ref b78), (.ref b78)])) rfl rfl (hb hby at_411)
  refine own_go st222 ?_
  have CH223 := CHr.trans CH219 (CHr.wr W222 sf221 CH219.1)
  have le_222 : h218.size ≤ h222.size := Nat.le_of_eq W222.size.symm
  have K222 : Keep h0 h222 [] := Keep.wr K218 W222 (Or.inr sz85)
  have N222 := Fr.snoc X222 N218 ge84
  have V222 : Arv Z h222 b78 k78 .char (49 : Int32) [(.int (nar .char (81 : Int32))), (.int (nar .char (117 : Int32))), (.int (nar .char (101 : Int32))), (.int (nar .char (117 : Int32))), (.int (nar .char (101 : Int32))), (.int (nar .char (67 : Int32))), (.int (nar .char (111 : Int32))), (.int (nar .char (117 : Int32))), (.int (nar .char (110 : Int32))), (.int (nar .char (116 : Int32))), (.int (nar .char (115 : Int32))), (.int (nar .char (91 : Int32))), (.int (nar .char (119 : Int32))), (.int (nar .char (97 : Int32))), (.int (nar .char (105 : Int32))), (.int (nar .char (116 : Int32))), (.int (nar .char (105 : Int32))), (.int (nar .char (110 : Int32))), (.int (nar .char (103 : Int32))), (.int (nar .char (61 : Int32))), (.int (nar .char ((48 : Int32) + r1_65))), (.int (nar .char (44 : Int32))), (.int (nar .char (32 : Int32))), (.int (nar .char (100 : Int32))), (.int (nar .char (117 : Int32))), (.int (nar .char (101 : Int32))), (.int (nar .char (61 : Int32))), (.int (nar .char ((48 : Int32) + r1_66))), (.int (nar .char (44 : Int32))), (.int (nar .char (32 : Int32))), (.int (nar .char (105 : Int32))), (.int (nar .char (110 : Int32))), (.int (nar .char (70 : Int32))), (.int (nar .char (108 : Int32))), (.int (0 : Int32)), (.int (0 : Int32)), (.int (0 : Int32)), (.int (0 : Int32)), (.int (0 : Int32)), (.int (0 : Int32)), (.int (0 : Int32)), (.int (0 : Int32)), (.int (0 : Int32)), (.int (0 : Int32)), (.int (0 : Int32)), (.int (0 : Int32)), (.int (0 : Int32)), (.int (0 : Int32)), (.int (0 : Int32))] (.int (0 : Int32)) := Arv.set Ar220 q220 S220 N220 H220 G220 (fits_nar_char _) W222 33 rfl (Nat.le_of_ble_eq_true rfl)
  refine own_go (fun _ => XS.dup X222.here hx rfl (hb hby at_412) rfl rfl) ?_
  refine own_go (fun _ => XS.bipush X222.here hx rfl (hb hby at_413)) ?_
  refine own_go (fun _ => XS.bipush X222.here hx rfl (hb hby at_415)) ?_
  obtain ⟨cl224, Ar224, q224, S224, N224, H224, G224⟩ := id V222
  have sf225 := Safe.arr (EL := own_EL) hZ.alike Ar224 (by decide)
  have hin224 : ¬ ((34 : Int32) < 0 ∨ cl224.slots.size ≤ ((34 : Int32)).toNatClampNeg) := inb_of S224 ⟨by decide, by decide⟩
  obtain ⟨T226, h226, X226, e226, W226, st226⟩ := stC X222 hx hZ e222 Ar224 (j := (34 : Int32)) hin224 (g := (mkF m 417 #[.val (.long xw), .second, .val (.long xd), .second, .val (.long xf), .second, .val (.long xx), .second, .val (.long xv), .second, .val (.int xs), .val (.long bw), .second, .val (.long bd), .second, .val (.long bf), .second, .val (.long bx), .second, .val (.ref b14), .val (.ref b23), .val (.int sm), .val (.int (1 : Int32)), .val (.int r1_65), .val (.int r1_66), .val (.int r1_67), .val (.int r1_68), .val (.ref b69), .unset, .unset] [(.int (105 : Int32)), (.int (34 : Int32)), (.ref b78), (.ref b78)])) rfl rfl (hb hby at_417)
  refine own_go st226 ?_
  have CH227 := CHr.trans CH223 (CHr.wr W226 sf225 CH223.1)
  have le_226 : h222.size ≤ h226.size := Nat.le_of_eq W226.size.symm
  have K226 : Keep h0 h226 [] := Keep.wr K222 W226 (Or.inr sz85)
  have N226 := Fr.snoc X226 N222 ge84
  have V226 : Arv Z h226 b78 k78 .char (49 : Int32) [(.int (nar .char (81 : Int32))), (.int (nar .char (117 : Int32))), (.int (nar .char (101 : Int32))), (.int (nar .char (117 : Int32))), (.int (nar .char (101 : Int32))), (.int (nar .char (67 : Int32))), (.int (nar .char (111 : Int32))), (.int (nar .char (117 : Int32))), (.int (nar .char (110 : Int32))), (.int (nar .char (116 : Int32))), (.int (nar .char (115 : Int32))), (.int (nar .char (91 : Int32))), (.int (nar .char (119 : Int32))), (.int (nar .char (97 : Int32))), (.int (nar .char (105 : Int32))), (.int (nar .char (116 : Int32))), (.int (nar .char (105 : Int32))), (.int (nar .char (110 : Int32))), (.int (nar .char (103 : Int32))), (.int (nar .char (61 : Int32))), (.int (nar .char ((48 : Int32) + r1_65))), (.int (nar .char (44 : Int32))), (.int (nar .char (32 : Int32))), (.int (nar .char (100 : Int32))), (.int (nar .char (117 : Int32))), (.int (nar .char (101 : Int32))), (.int (nar .char (61 : Int32))), (.int (nar .char ((48 : Int32) + r1_66))), (.int (nar .char (44 : Int32))), (.int (nar .char (32 : Int32))), (.int (nar .char (105 : Int32))), (.int (nar .char (110 : Int32))), (.int (nar .char (70 : Int32))), (.int (nar .char (108 : Int32))), (.int (nar .char (105 : Int32))), (.int (0 : Int32)), (.int (0 : Int32)), (.int (0 : Int32)), (.int (0 : Int32)), (.int (0 : Int32)), (.int (0 : Int32)), (.int (0 : Int32)), (.int (0 : Int32)), (.int (0 : Int32)), (.int (0 : Int32)), (.int (0 : Int32)), (.int (0 : Int32)), (.int (0 : Int32)), (.int (0 : Int32))] (.int (0 : Int32)) := Arv.set Ar224 q224 S224 N224 H224 G224 (fits_nar_char _) W226 34 rfl (Nat.le_of_ble_eq_true rfl)
  show ∃ t o, Steps p.tables e below (T226.setTop (mkF m 418 #[.val (.long xw), .second, .val (.long xd), .second, .val (.long xf), .second, .val (.long xx), .second, .val (.long xv), .second, .val (.int xs), .val (.long bw), .second, .val (.long bd), .second, .val (.long bf), .second, .val (.long bx), .second, .val (.ref b14), .val (.ref b23), .val (.int sm), .val (.int (1 : Int32)), .val (.int r1_65), .val (.int r1_66), .val (.int r1_67), .val (.int r1_68), .val (.ref b69), .unset, .unset] [(.ref b78)])) t ∧ _
  refine own_go (fun _ => XS.dup X226.here hx rfl (hb hby at_418) rfl rfl) ?_
  refine own_go (fun _ => XS.bipush X226.here hx rfl (hb hby at_419)) ?_
  refine own_go (fun _ => XS.bipush X226.here hx rfl (hb hby at_421)) ?_
  obtain ⟨cl228, Ar228, q228, S228, N228, H228, G228⟩ := id V226
  have sf229 := Safe.arr (EL := own_EL) hZ.alike Ar228 (by decide)
  have hin228 : ¬ ((35 : Int32) < 0 ∨ cl228.slots.size ≤ ((35 : Int32)).toNatClampNeg) := inb_of S228 ⟨by decide, by decide⟩
  obtain ⟨T230, h230, X230, e230, W230, st230⟩ := stC X226 hx hZ e226 Ar228 (j := (35 : Int32)) hin228 (g := (mkF m 423 #[.val (.long xw), .second, .val (.long xd), .second, .val (.long xf), .second, .val (.long xx), .second, .val (.long xv), .second, .val (.int xs), .val (.long bw), .second, .val (.long bd), .second, .val (.long bf), .second, .val (.long bx), .second, .val (.ref b14), .val (.ref b23), .val (.int sm), .val (.int (1 : Int32)), .val (.int r1_65), .val (.int r1_66), .val (.int r1_67), .val (.int r1_68), .val (.ref b69), .unset, .unset] [(.int (103 : Int32)), (.int (35 : Int32)), (.ref b78), (.ref b78)])) rfl rfl (hb hby at_423)
  refine own_go st230 ?_
  have CH231 := CHr.trans CH227 (CHr.wr W230 sf229 CH227.1)
  have le_230 : h226.size ≤ h230.size := Nat.le_of_eq W230.size.symm
  have K230 : Keep h0 h230 [] := Keep.wr K226 W230 (Or.inr sz85)
  have N230 := Fr.snoc X230 N226 ge84
  have V230 : Arv Z h230 b78 k78 .char (49 : Int32) [(.int (nar .char (81 : Int32))), (.int (nar .char (117 : Int32))), (.int (nar .char (101 : Int32))), (.int (nar .char (117 : Int32))), (.int (nar .char (101 : Int32))), (.int (nar .char (67 : Int32))), (.int (nar .char (111 : Int32))), (.int (nar .char (117 : Int32))), (.int (nar .char (110 : Int32))), (.int (nar .char (116 : Int32))), (.int (nar .char (115 : Int32))), (.int (nar .char (91 : Int32))), (.int (nar .char (119 : Int32))), (.int (nar .char (97 : Int32))), (.int (nar .char (105 : Int32))), (.int (nar .char (116 : Int32))), (.int (nar .char (105 : Int32))), (.int (nar .char (110 : Int32))), (.int (nar .char (103 : Int32))), (.int (nar .char (61 : Int32))), (.int (nar .char ((48 : Int32) + r1_65))), (.int (nar .char (44 : Int32))), (.int (nar .char (32 : Int32))), (.int (nar .char (100 : Int32))), (.int (nar .char (117 : Int32))), (.int (nar .char (101 : Int32))), (.int (nar .char (61 : Int32))), (.int (nar .char ((48 : Int32) + r1_66))), (.int (nar .char (44 : Int32))), (.int (nar .char (32 : Int32))), (.int (nar .char (105 : Int32))), (.int (nar .char (110 : Int32))), (.int (nar .char (70 : Int32))), (.int (nar .char (108 : Int32))), (.int (nar .char (105 : Int32))), (.int (nar .char (103 : Int32))), (.int (0 : Int32)), (.int (0 : Int32)), (.int (0 : Int32)), (.int (0 : Int32)), (.int (0 : Int32)), (.int (0 : Int32)), (.int (0 : Int32)), (.int (0 : Int32)), (.int (0 : Int32)), (.int (0 : Int32)), (.int (0 : Int32)), (.int (0 : Int32)), (.int (0 : Int32))] (.int (0 : Int32)) := Arv.set Ar228 q228 S228 N228 H228 G228 (fits_nar_char _) W230 35 rfl (Nat.le_of_ble_eq_true rfl)
  refine own_go (fun _ => XS.dup X230.here hx rfl (hb hby at_424) rfl rfl) ?_
  refine own_go (fun _ => XS.bipush X230.here hx rfl (hb hby at_425)) ?_
  refine own_go (fun _ => XS.bipush X230.here hx rfl (hb hby at_427)) ?_
  obtain ⟨cl232, Ar232, q232, S232, N232, H232, G232⟩ := id V230
  have sf233 := Safe.arr (EL := own_EL) hZ.alike Ar232 (by decide)
  have hin232 : ¬ ((36 : Int32) < 0 ∨ cl232.slots.size ≤ ((36 : Int32)).toNatClampNeg) := inb_of S232 ⟨by decide, by decide⟩
  obtain ⟨T234, h234, X234, e234, W234, st234⟩ := stC X230 hx hZ e230 Ar232 (j := (36 : Int32)) hin232 (g := (mkF m 429 #[.val (.long xw), .second, .val (.long xd), .second, .val (.long xf), .second, .val (.long xx), .second, .val (.long xv), .second, .val (.int xs), .val (.long bw), .second, .val (.long bd), .second, .val (.long bf), .second, .val (.long bx), .second, .val (.ref b14), .val (.ref b23), .val (.int sm), .val (.int (1 : Int32)), .val (.int r1_65), .val (.int r1_66), .val (.int r1_67), .val (.int r1_68), .val (.ref b69), .unset, .unset] [(.int (104 : Int32)), (.int (36 : Int32)), (.ref b78), (.ref b78)])) rfl rfl (hb hby at_429)
  refine own_go st234 ?_
  have CH235 := CHr.trans CH231 (CHr.wr W234 sf233 CH231.1)
  have le_234 : h230.size ≤ h234.size := Nat.le_of_eq W234.size.symm
  have K234 : Keep h0 h234 [] := Keep.wr K230 W234 (Or.inr sz85)
  have N234 := Fr.snoc X234 N230 ge84
  have V234 : Arv Z h234 b78 k78 .char (49 : Int32) [(.int (nar .char (81 : Int32))), (.int (nar .char (117 : Int32))), (.int (nar .char (101 : Int32))), (.int (nar .char (117 : Int32))), (.int (nar .char (101 : Int32))), (.int (nar .char (67 : Int32))), (.int (nar .char (111 : Int32))), (.int (nar .char (117 : Int32))), (.int (nar .char (110 : Int32))), (.int (nar .char (116 : Int32))), (.int (nar .char (115 : Int32))), (.int (nar .char (91 : Int32))), (.int (nar .char (119 : Int32))), (.int (nar .char (97 : Int32))), (.int (nar .char (105 : Int32))), (.int (nar .char (116 : Int32))), (.int (nar .char (105 : Int32))), (.int (nar .char (110 : Int32))), (.int (nar .char (103 : Int32))), (.int (nar .char (61 : Int32))), (.int (nar .char ((48 : Int32) + r1_65))), (.int (nar .char (44 : Int32))), (.int (nar .char (32 : Int32))), (.int (nar .char (100 : Int32))), (.int (nar .char (117 : Int32))), (.int (nar .char (101 : Int32))), (.int (nar .char (61 : Int32))), (.int (nar .char ((48 : Int32) + r1_66))), (.int (nar .char (44 : Int32))), (.int (nar .char (32 : Int32))), (.int (nar .char (105 : Int32))), (.int (nar .char (110 : Int32))), (.int (nar .char (70 : Int32))), (.int (nar .char (108 : Int32))), (.int (nar .char (105 : Int32))), (.int (nar .char (103 : Int32))), (.int (nar .char (104 : Int32))), (.int (0 : Int32)), (.int (0 : Int32)), (.int (0 : Int32)), (.int (0 : Int32)), (.int (0 : Int32)), (.int (0 : Int32)), (.int (0 : Int32)), (.int (0 : Int32)), (.int (0 : Int32)), (.int (0 : Int32)), (.int (0 : Int32)), (.int (0 : Int32))] (.int (0 : Int32)) := Arv.set Ar232 q232 S232 N232 H232 G232 (fits_nar_char _) W234 36 rfl (Nat.le_of_ble_eq_true rfl)
  refine own_go (fun _ => XS.dup X234.here hx rfl (hb hby at_430) rfl rfl) ?_
  refine own_go (fun _ => XS.bipush X234.here hx rfl (hb hby at_431)) ?_
  show ∃ t o, Steps p.tables e below (T234.setTop (mkF m 433 #[.val (.long xw), .second, .val (.long xd), .second, .val (.long xf), .second, .val (.long xx), .second, .val (.long xv), .second, .val (.int xs), .val (.long bw), .second, .val (.long bd), .second, .val (.long bf), .second, .val (.long bx), .second, .val (.ref b14), .val (.ref b23), .val (.int sm), .val (.int (1 : Int32)), .val (.int r1_65), .val (.int r1_66), .val (.int r1_67), .val (.int r1_68), .val (.ref b69), .unset, .unset] [(.int (37 : Int32)), (.ref b78), (.ref b78)])) t ∧ _
  refine own_go (fun _ => XS.bipush X234.here hx rfl (hb hby at_433)) ?_
  obtain ⟨cl236, Ar236, q236, S236, N236, H236, G236⟩ := id V234
  have sf237 := Safe.arr (EL := own_EL) hZ.alike Ar236 (by decide)
  have hin236 : ¬ ((37 : Int32) < 0 ∨ cl236.slots.size ≤ ((37 : Int32)).toNatClampNeg) := inb_of S236 ⟨by decide, by decide⟩
  obtain ⟨T238, h238, X238, e238, W238, st238⟩ := stC X234 hx hZ e234 Ar236 (j := (37 : Int32)) hin236 (g := (mkF m 435 #[.val (.long xw), .second, .val (.long xd), .second, .val (.long xf), .second, .val (.long xx), .second, .val (.long xv), .second, .val (.int xs), .val (.long bw), .second, .val (.long bd), .second, .val (.long bf), .second, .val (.long bx), .second, .val (.ref b14), .val (.ref b23), .val (.int sm), .val (.int (1 : Int32)), .val (.int r1_65), .val (.int r1_66), .val (.int r1_67), .val (.int r1_68), .val (.ref b69), .unset, .unset] [(.int (116 : Int32)), (.int (37 : Int32)), (.ref b78), (.ref b78)])) rfl rfl (hb hby at_435)
  refine own_go st238 ?_
  have CH239 := CHr.trans CH235 (CHr.wr W238 sf237 CH235.1)
  have le_238 : h234.size ≤ h238.size := Nat.le_of_eq W238.size.symm
  have K238 : Keep h0 h238 [] := Keep.wr K234 W238 (Or.inr sz85)
  have N238 := Fr.snoc X238 N234 ge84
  have V238 : Arv Z h238 b78 k78 .char (49 : Int32) [(.int (nar .char (81 : Int32))), (.int (nar .char (117 : Int32))), (.int (nar .char (101 : Int32))), (.int (nar .char (117 : Int32))), (.int (nar .char (101 : Int32))), (.int (nar .char (67 : Int32))), (.int (nar .char (111 : Int32))), (.int (nar .char (117 : Int32))), (.int (nar .char (110 : Int32))), (.int (nar .char (116 : Int32))), (.int (nar .char (115 : Int32))), (.int (nar .char (91 : Int32))), (.int (nar .char (119 : Int32))), (.int (nar .char (97 : Int32))), (.int (nar .char (105 : Int32))), (.int (nar .char (116 : Int32))), (.int (nar .char (105 : Int32))), (.int (nar .char (110 : Int32))), (.int (nar .char (103 : Int32))), (.int (nar .char (61 : Int32))), (.int (nar .char ((48 : Int32) + r1_65))), (.int (nar .char (44 : Int32))), (.int (nar .char (32 : Int32))), (.int (nar .char (100 : Int32))), (.int (nar .char (117 : Int32))), (.int (nar .char (101 : Int32))), (.int (nar .char (61 : Int32))), (.int (nar .char ((48 : Int32) + r1_66))), (.int (nar .char (44 : Int32))), (.int (nar .char (32 : Int32))), (.int (nar .char (105 : Int32))), (.int (nar .char (110 : Int32))), (.int (nar .char (70 : Int32))), (.int (nar .char (108 : Int32))), (.int (nar .char (105 : Int32))), (.int (nar .char (103 : Int32))), (.int (nar .char (104 : Int32))), (.int (nar .char (116 : Int32))), (.int (0 : Int32)), (.int (0 : Int32)), (.int (0 : Int32)), (.int (0 : Int32)), (.int (0 : Int32)), (.int (0 : Int32)), (.int (0 : Int32)), (.int (0 : Int32)), (.int (0 : Int32)), (.int (0 : Int32)), (.int (0 : Int32))] (.int (0 : Int32)) := Arv.set Ar236 q236 S236 N236 H236 G236 (fits_nar_char _) W238 37 rfl (Nat.le_of_ble_eq_true rfl)
  refine own_go (fun _ => XS.dup X238.here hx rfl (hb hby at_436) rfl rfl) ?_
  refine own_go (fun _ => XS.bipush X238.here hx rfl (hb hby at_437)) ?_
  refine own_go (fun _ => XS.bipush X238.here hx rfl (hb hby at_439)) ?_
  obtain ⟨cl240, Ar240, q240, S240, N240, H240, G240⟩ := id V238
  have sf241 := Safe.arr (EL := own_EL) hZ.alike Ar240 (by decide)
  have hin240 : ¬ ((38 : Int32) < 0 ∨ cl240.slots.size ≤ ((38 : Int32)).toNatClampNeg) := inb_of S240 ⟨by decide, by decide⟩
  obtain ⟨T242, h242, X242, e242, W242, st242⟩ := stC X238 hx hZ e238 Ar240 (j := (38 : Int32)) hin240 (g := (mkF m 441 #[.val (.long xw), .second, .val (.long xd), .second, .val (.long xf), .second, .val (.long xx), .second, .val (.long xv), .second, .val (.int xs), .val (.long bw), .second, .val (.long bd), .second, .val (.long bf), .second, .val (.long bx), .second, .val (.ref b14), .val (.ref b23), .val (.int sm), .val (.int (1 : Int32)), .val (.int r1_65), .val (.int r1_66), .val (.int r1_67), .val (.int r1_68), .val (.ref b69), .unset, .unset] [(.int (61 : Int32)), (.int (38 : Int32)), (.ref b78), (.ref b78)])) rfl rfl (hb hby at_441)
  refine own_go st242 ?_
  have CH243 := CHr.trans CH239 (CHr.wr W242 sf241 CH239.1)
  have le_242 : h238.size ≤ h242.size := Nat.le_of_eq W242.size.symm
  have K242 : Keep h0 h242 [] := Keep.wr K238 W242 (Or.inr sz85)
  have N242 := Fr.snoc X242 N238 ge84
  have V242 : Arv Z h242 b78 k78 .char (49 : Int32) [(.int (nar .char (81 : Int32))), (.int (nar .char (117 : Int32))), (.int (nar .char (101 : Int32))), (.int (nar .char (117 : Int32))), (.int (nar .char (101 : Int32))), (.int (nar .char (67 : Int32))), (.int (nar .char (111 : Int32))), (.int (nar .char (117 : Int32))), (.int (nar .char (110 : Int32))), (.int (nar .char (116 : Int32))), (.int (nar .char (115 : Int32))), (.int (nar .char (91 : Int32))), (.int (nar .char (119 : Int32))), (.int (nar .char (97 : Int32))), (.int (nar .char (105 : Int32))), (.int (nar .char (116 : Int32))), (.int (nar .char (105 : Int32))), (.int (nar .char (110 : Int32))), (.int (nar .char (103 : Int32))), (.int (nar .char (61 : Int32))), (.int (nar .char ((48 : Int32) + r1_65))), (.int (nar .char (44 : Int32))), (.int (nar .char (32 : Int32))), (.int (nar .char (100 : Int32))), (.int (nar .char (117 : Int32))), (.int (nar .char (101 : Int32))), (.int (nar .char (61 : Int32))), (.int (nar .char ((48 : Int32) + r1_66))), (.int (nar .char (44 : Int32))), (.int (nar .char (32 : Int32))), (.int (nar .char (105 : Int32))), (.int (nar .char (110 : Int32))), (.int (nar .char (70 : Int32))), (.int (nar .char (108 : Int32))), (.int (nar .char (105 : Int32))), (.int (nar .char (103 : Int32))), (.int (nar .char (104 : Int32))), (.int (nar .char (116 : Int32))), (.int (nar .char (61 : Int32))), (.int (0 : Int32)), (.int (0 : Int32)), (.int (0 : Int32)), (.int (0 : Int32)), (.int (0 : Int32)), (.int (0 : Int32)), (.int (0 : Int32)), (.int (0 : Int32)), (.int (0 : Int32)), (.int (0 : Int32))] (.int (0 : Int32)) := Arv.set Ar240 q240 S240 N240 H240 G240 (fits_nar_char _) W242 38 rfl (Nat.le_of_ble_eq_true rfl)
  refine own_go (fun _ => XS.dup X242.here hx rfl (hb hby at_442) rfl rfl) ?_
  refine own_go (fun _ => XS.bipush X242.here hx rfl (hb hby at_443)) ?_
  refine own_go (fun _ => XS.iload X242.here hx rfl (hb hby at_445) rfl) ?_
  show ∃ t o, Steps p.tables e below (T242.setTop (mkF m 447 #[.val (.long xw), .second, .val (.long xd), .second, .val (.long xf), .second, .val (.long xx), .second, .val (.long xv), .second, .val (.int xs), .val (.long bw), .second, .val (.long bd), .second, .val (.long bf), .second, .val (.long bx), .second, .val (.ref b14), .val (.ref b23), .val (.int sm), .val (.int (1 : Int32)), .val (.int r1_65), .val (.int r1_66), .val (.int r1_67), .val (.int r1_68), .val (.ref b69), .unset, .unset] [(.int r1_67), (.int (39 : Int32)), (.ref b78), (.ref b78)])) t ∧ _
  have F244 := (Old.wr (Old.wr (Old.wr (Old.wr (Old.wr (Old.wr (Old.wr (Old.wr (Old.wr (Old.wr (Old.wr (Old.wr F193 W198 ge84) W202 ge84) W206 ge84) W210 ge84) W214 ge84) W218 ge84) W222 ge84) W226 ge84) W230 ge84) W234 ge84) W238 ge84) W242 ge84)
  have zl245 : n0 ≤ h242.size := by omega
  obtain ⟨_, _, ⟨T246, L246, k246, n246⟩, -, X246, ⟨Lc246, hQ246, l246, y246, z246⟩, st246⟩ := Jvm.LawKit.callS X242 hx (y := (⟨"com/example/libtardy/libtardy/QueueCountsToStringPinLaw", "ch", "(I)C"⟩ : MethodName)) hown (mvT hZ w_206) (mvT hZ w_207) (mvT hZ w_202) (mvT hZ w_208) (by decide) (backOf (W := 3) (rmCh l Z a0 hw [] r1_67 h242 n0 zl245 F244 (H67_0 : own_d9 r1_67)) hZ w_208 w_202 (by decide) (by decide)) (g := (mkF m 447 #[.val (.long xw), .second, .val (.long xd), .second, .val (.long xf), .second, .val (.long xx), .second, .val (.long xv), .second, .val (.int xs), .val (.long bw), .second, .val (.long bd), .second, .val (.long bf), .second, .val (.long bx), .second, .val (.ref b14), .val (.ref b23), .val (.int sm), .val (.int (1 : Int32)), .val (.int r1_65), .val (.int r1_66), .val (.int r1_67), .val (.int r1_68), .val (.ref b69), .unset, .unset] [(.int r1_67), (.int (39 : Int32)), (.ref b78), (.ref b78)])) rfl (by rw [hml]; rfl) (argsL := [(.int r1_67)]) (rest := [(.int (39 : Int32)), (.ref b78), (.ref b78)]) (lenOf pd__28I_29C rfl) rfl (by show 2 * 0 + _ ≤ _; exact Nat.le_of_eq rfl) (hb hby at_447) (fun _ _ => ⟨rfl, e242, (by decide : 48 + 0 ≤ _), (by decide : 3065 + 0 ≤ _)⟩)
  dsimp only [Pt.U, Pt.locs, Pt.cells, Pt.slots] at X246 l246 y246 z246 st246 hQ246
  rw [l246, y246, z246] at X246
  obtain ⟨rfl, Nq246, e246⟩ := hQ246
  have N246 := Fr.app N242 Nq246
  refine own_go st246 ?_
  obtain ⟨cl247, Ar247, q247, S247, N247, H247, G247⟩ := id V242
  have sf248 := Safe.arr (EL := own_EL) hZ.alike Ar247 (by decide)
  have hin247 : ¬ ((39 : Int32) < 0 ∨ cl247.slots.size ≤ ((39 : Int32)).toNatClampNeg) := inb_of S247 ⟨by decide, by decide⟩
  obtain ⟨T249, h249, X249, e249, W249, st249⟩ := stC X246 hx hZ e246 Ar247 (j := (39 : Int32)) hin247 (g := (mkF m 450 #[.val (.long xw), .second, .val (.long xd), .second, .val (.long xf), .second, .val (.long xx), .second, .val (.long xv), .second, .val (.int xs), .val (.long bw), .second, .val (.long bd), .second, .val (.long bf), .second, .val (.long bx), .second, .val (.ref b14), .val (.ref b23), .val (.int sm), .val (.int (1 : Int32)), .val (.int r1_65), .val (.int r1_66), .val (.int r1_67), .val (.int r1_68), .val (.ref b69), .unset, .unset] [(.int ((48 : Int32) + r1_67)), (.int (39 : Int32)), (.ref b78), (.ref b78)])) rfl rfl (hb hby at_450)
  refine own_go st249 ?_
  have CH250 := CHr.trans CH243 (CHr.wr W249 sf248 CH243.1)
  have le_249 : h242.size ≤ h249.size := Nat.le_of_eq W249.size.symm
  have K249 : Keep h0 h249 [] := Keep.wr K242 W249 (Or.inr sz85)
  have N249 := Fr.snoc X249 N246 ge84
  have V249 : Arv Z h249 b78 k78 .char (49 : Int32) [(.int (nar .char (81 : Int32))), (.int (nar .char (117 : Int32))), (.int (nar .char (101 : Int32))), (.int (nar .char (117 : Int32))), (.int (nar .char (101 : Int32))), (.int (nar .char (67 : Int32))), (.int (nar .char (111 : Int32))), (.int (nar .char (117 : Int32))), (.int (nar .char (110 : Int32))), (.int (nar .char (116 : Int32))), (.int (nar .char (115 : Int32))), (.int (nar .char (91 : Int32))), (.int (nar .char (119 : Int32))), (.int (nar .char (97 : Int32))), (.int (nar .char (105 : Int32))), (.int (nar .char (116 : Int32))), (.int (nar .char (105 : Int32))), (.int (nar .char (110 : Int32))), (.int (nar .char (103 : Int32))), (.int (nar .char (61 : Int32))), (.int (nar .char ((48 : Int32) + r1_65))), (.int (nar .char (44 : Int32))), (.int (nar .char (32 : Int32))), (.int (nar .char (100 : Int32))), (.int (nar .char (117 : Int32))), (.int (nar .char (101 : Int32))), (.int (nar .char (61 : Int32))), (.int (nar .char ((48 : Int32) + r1_66))), (.int (nar .char (44 : Int32))), (.int (nar .char (32 : Int32))), (.int (nar .char (105 : Int32))), (.int (nar .char (110 : Int32))), (.int (nar .char (70 : Int32))), (.int (nar .char (108 : Int32))), (.int (nar .char (105 : Int32))), (.int (nar .char (103 : Int32))), (.int (nar .char (104 : Int32))), (.int (nar .char (116 : Int32))), (.int (nar .char (61 : Int32))), (.int (nar .char ((48 : Int32) + r1_67))), (.int (0 : Int32)), (.int (0 : Int32)), (.int (0 : Int32)), (.int (0 : Int32)), (.int (0 : Int32)), (.int (0 : Int32)), (.int (0 : Int32)), (.int (0 : Int32)), (.int (0 : Int32))] (.int (0 : Int32)) := Arv.set Ar247 q247 S247 N247 H247 G247 (fits_nar_char _) W249 39 rfl (Nat.le_of_ble_eq_true rfl)
  refine own_go (fun _ => XS.dup X249.here hx rfl (hb hby at_451) rfl rfl) ?_
  refine own_go (fun _ => XS.bipush X249.here hx rfl (hb hby at_452)) ?_
  refine own_go (fun _ => XS.bipush X249.here hx rfl (hb hby at_454)) ?_
  obtain ⟨cl251, Ar251, q251, S251, N251, H251, G251⟩ := id V249
  have sf252 := Safe.arr (EL := own_EL) hZ.alike Ar251 (by decide)
  have hin251 : ¬ ((40 : Int32) < 0 ∨ cl251.slots.size ≤ ((40 : Int32)).toNatClampNeg) := inb_of S251 ⟨by decide, by decide⟩
  obtain ⟨T253, h253, X253, e253, W253, st253⟩ := stC X249 hx hZ e249 Ar251 (j := (40 : Int32)) hin251 (g := (mkF m 456 #[.val (.long xw), .second, .val (.long xd), .second, .val (.long xf), .second, .val (.long xx), .second, .val (.long xv), .second, .val (.int xs), .val (.long bw), .second, .val (.long bd), .second, .val (.long bf), .second, .val (.long bx), .second, .val (.ref b14), .val (.ref b23), .val (.int sm), .val (.int (1 : Int32)), .val (.int r1_65), .val (.int r1_66), .val (.int r1_67), .val (.int r1_68), .val (.ref b69), .unset, .unset] [(.int (44 : Int32)), (.int (40 : Int32)), (.ref b78), (.ref b78)])) rfl rfl (hb hby at_456)
  refine own_go st253 ?_
  have CH254 := CHr.trans CH250 (CHr.wr W253 sf252 CH250.1)
  have le_253 : h249.size ≤ h253.size := Nat.le_of_eq W253.size.symm
  have K253 : Keep h0 h253 [] := Keep.wr K249 W253 (Or.inr sz85)
  have N253 := Fr.snoc X253 N249 ge84
  have V253 : Arv Z h253 b78 k78 .char (49 : Int32) [(.int (nar .char (81 : Int32))), (.int (nar .char (117 : Int32))), (.int (nar .char (101 : Int32))), (.int (nar .char (117 : Int32))), (.int (nar .char (101 : Int32))), (.int (nar .char (67 : Int32))), (.int (nar .char (111 : Int32))), (.int (nar .char (117 : Int32))), (.int (nar .char (110 : Int32))), (.int (nar .char (116 : Int32))), (.int (nar .char (115 : Int32))), (.int (nar .char (91 : Int32))), (.int (nar .char (119 : Int32))), (.int (nar .char (97 : Int32))), (.int (nar .char (105 : Int32))), (.int (nar .char (116 : Int32))), (.int (nar .char (105 : Int32))), (.int (nar .char (110 : Int32))), (.int (nar .char (103 : Int32))), (.int (nar .char (61 : Int32))), (.int (nar .char ((48 : Int32) + r1_65))), (.int (nar .char (44 : Int32))), (.int (nar .char (32 : Int32))), (.int (nar .char (100 : Int32))), (.int (nar .char (117 : Int32))), (.int (nar .char (101 : Int32))), (.int (nar .char (61 : Int32))), (.int (nar .char ((48 : Int32) + r1_66))), (.int (nar .char (44 : Int32))), (.int (nar .char (32 : Int32))), (.int (nar .char (105 : Int32))), (.int (nar .char (110 : Int32))), (.int (nar .char (70 : Int32))), (.int (nar .char (108 : Int32))), (.int (nar .char (105 : Int32))), (.int (nar .char (103 : Int32))), (.int (nar .char (104 : Int32))), (.int (nar .char (116 : Int32))), (.int (nar .char (61 : Int32))), (.int (nar .char ((48 : Int32) + r1_67))), (.int (nar .char (44 : Int32))), (.int (0 : Int32)), (.int (0 : Int32)), (.int (0 : Int32)), (.int (0 : Int32)), (.int (0 : Int32)), (.int (0 : Int32)), (.int (0 : Int32)), (.int (0 : Int32))] (.int (0 : Int32)) := Arv.set Ar251 q251 S251 N251 H251 G251 (fits_nar_char _) W253 40 rfl (Nat.le_of_ble_eq_true rfl)
  refine own_go (fun _ => XS.dup X253.here hx rfl (hb hby at_457) rfl rfl) ?_
  refine own_go (fun _ => XS.bipush X253.here hx rfl (hb hby at_458)) ?_
  refine own_go (fun _ => XS.bipush X253.here hx rfl (hb hby at_460)) ?_
  obtain ⟨cl255, Ar255, q255, S255, N255, H255, G255⟩ := id V253
  have sf256 := Safe.arr (EL := own_EL) hZ.alike Ar255 (by decide)
  have hin255 : ¬ ((41 : Int32) < 0 ∨ cl255.slots.size ≤ ((41 : Int32)).toNatClampNeg) := inb_of S255 ⟨by decide, by decide⟩
  obtain ⟨T257, h257, X257, e257, W257, st257⟩ := stC X253 hx hZ e253 Ar255 (j := (41 : Int32)) hin255 (g := (mkF m 462 #[.val (.long xw), .second, .val (.long xd), .second, .val (.long xf), .second, .val (.long xx), .second, .val (.long xv), .second, .val (.int xs), .val (.long bw), .second, .val (.long bd), .second, .val (.long bf), .second, .val (.long bx), .second, .val (.ref b14), .val (.ref b23), .val (.int sm), .val (.int (1 : Int32)), .val (.int r1_65), .val (.int r1_66), .val (.int r1_67), .val (.int r1_68), .val (.ref b69), .unset, .unset] [(.int (32 : Int32)), (.int (41 : Int32)), (.ref b78), (.ref b78)])) rfl rfl (hb hby at_462)
  refine own_go st257 ?_
  have CH258 := CHr.trans CH254 (CHr.wr W257 sf256 CH254.1)
  have le_257 : h253.size ≤ h257.size := Nat.le_of_eq W257.size.symm
  have K257 : Keep h0 h257 [] := Keep.wr K253 W257 (Or.inr sz85)
  have N257 := Fr.snoc X257 N253 ge84
  have V257 : Arv Z h257 b78 k78 .char (49 : Int32) [(.int (nar .char (81 : Int32))), (.int (nar .char (117 : Int32))), (.int (nar .char (101 : Int32))), (.int (nar .char (117 : Int32))), (.int (nar .char (101 : Int32))), (.int (nar .char (67 : Int32))), (.int (nar .char (111 : Int32))), (.int (nar .char (117 : Int32))), (.int (nar .char (110 : Int32))), (.int (nar .char (116 : Int32))), (.int (nar .char (115 : Int32))), (.int (nar .char (91 : Int32))), (.int (nar .char (119 : Int32))), (.int (nar .char (97 : Int32))), (.int (nar .char (105 : Int32))), (.int (nar .char (116 : Int32))), (.int (nar .char (105 : Int32))), (.int (nar .char (110 : Int32))), (.int (nar .char (103 : Int32))), (.int (nar .char (61 : Int32))), (.int (nar .char ((48 : Int32) + r1_65))), (.int (nar .char (44 : Int32))), (.int (nar .char (32 : Int32))), (.int (nar .char (100 : Int32))), (.int (nar .char (117 : Int32))), (.int (nar .char (101 : Int32))), (.int (nar .char (61 : Int32))), (.int (nar .char ((48 : Int32) + r1_66))), (.int (nar .char (44 : Int32))), (.int (nar .char (32 : Int32))), (.int (nar .char (105 : Int32))), (.int (nar .char (110 : Int32))), (.int (nar .char (70 : Int32))), (.int (nar .char (108 : Int32))), (.int (nar .char (105 : Int32))), (.int (nar .char (103 : Int32))), (.int (nar .char (104 : Int32))), (.int (nar .char (116 : Int32))), (.int (nar .char (61 : Int32))), (.int (nar .char ((48 : Int32) + r1_67))), (.int (nar .char (44 : Int32))), (.int (nar .char (32 : Int32))), (.int (0 : Int32)), (.int (0 : Int32)), (.int (0 : Int32)), (.int (0 : Int32)), (.int (0 : Int32)), (.int (0 : Int32)), (.int (0 : Int32))] (.int (0 : Int32)) := Arv.set Ar255 q255 S255 N255 H255 G255 (fits_nar_char _) W257 41 rfl (Nat.le_of_ble_eq_true rfl)
  show ∃ t o, Steps p.tables e below (T257.setTop (mkF m 463 #[.val (.long xw), .second, .val (.long xd), .second, .val (.long xf), .second, .val (.long xx), .second, .val (.long xv), .second, .val (.int xs), .val (.long bw), .second, .val (.long bd), .second, .val (.long bf), .second, .val (.long bx), .second, .val (.ref b14), .val (.ref b23), .val (.int sm), .val (.int (1 : Int32)), .val (.int r1_65), .val (.int r1_66), .val (.int r1_67), .val (.int r1_68), .val (.ref b69), .unset, .unset] [(.ref b78)])) t ∧ _
  refine own_go (fun _ => XS.dup X257.here hx rfl (hb hby at_463) rfl rfl) ?_
  refine own_go (fun _ => XS.bipush X257.here hx rfl (hb hby at_464)) ?_
  refine own_go (fun _ => XS.bipush X257.here hx rfl (hb hby at_466)) ?_
  obtain ⟨cl259, Ar259, q259, S259, N259, H259, G259⟩ := id V257
  have sf260 := Safe.arr (EL := own_EL) hZ.alike Ar259 (by decide)
  have hin259 : ¬ ((42 : Int32) < 0 ∨ cl259.slots.size ≤ ((42 : Int32)).toNatClampNeg) := inb_of S259 ⟨by decide, by decide⟩
  obtain ⟨T261, h261, X261, e261, W261, st261⟩ := stC X257 hx hZ e257 Ar259 (j := (42 : Int32)) hin259 (g := (mkF m 468 #[.val (.long xw), .second, .val (.long xd), .second, .val (.long xf), .second, .val (.long xx), .second, .val (.long xv), .second, .val (.int xs), .val (.long bw), .second, .val (.long bd), .second, .val (.long bf), .second, .val (.long bx), .second, .val (.ref b14), .val (.ref b23), .val (.int sm), .val (.int (1 : Int32)), .val (.int r1_65), .val (.int r1_66), .val (.int r1_67), .val (.int r1_68), .val (.ref b69), .unset, .unset] [(.int (100 : Int32)), (.int (42 : Int32)), (.ref b78), (.ref b78)])) rfl rfl (hb hby at_468)
  refine own_go st261 ?_
  have CH262 := CHr.trans CH258 (CHr.wr W261 sf260 CH258.1)
  have le_261 : h257.size ≤ h261.size := Nat.le_of_eq W261.size.symm
  have K261 : Keep h0 h261 [] := Keep.wr K257 W261 (Or.inr sz85)
  have N261 := Fr.snoc X261 N257 ge84
  have V261 : Arv Z h261 b78 k78 .char (49 : Int32) [(.int (nar .char (81 : Int32))), (.int (nar .char (117 : Int32))), (.int (nar .char (101 : Int32))), (.int (nar .char (117 : Int32))), (.int (nar .char (101 : Int32))), (.int (nar .char (67 : Int32))), (.int (nar .char (111 : Int32))), (.int (nar .char (117 : Int32))), (.int (nar .char (110 : Int32))), (.int (nar .char (116 : Int32))), (.int (nar .char (115 : Int32))), (.int (nar .char (91 : Int32))), (.int (nar .char (119 : Int32))), (.int (nar .char (97 : Int32))), (.int (nar .char (105 : Int32))), (.int (nar .char (116 : Int32))), (.int (nar .char (105 : Int32))), (.int (nar .char (110 : Int32))), (.int (nar .char (103 : Int32))), (.int (nar .char (61 : Int32))), (.int (nar .char ((48 : Int32) + r1_65))), (.int (nar .char (44 : Int32))), (.int (nar .char (32 : Int32))), (.int (nar .char (100 : Int32))), (.int (nar .char (117 : Int32))), (.int (nar .char (101 : Int32))), (.int (nar .char (61 : Int32))), (.int (nar .char ((48 : Int32) + r1_66))), (.int (nar .char (44 : Int32))), (.int (nar .char (32 : Int32))), (.int (nar .char (105 : Int32))), (.int (nar .char (110 : Int32))), (.int (nar .char (70 : Int32))), (.int (nar .char (108 : Int32))), (.int (nar .char (105 : Int32))), (.int (nar .char (103 : Int32))), (.int (nar .char (104 : Int32))), (.int (nar .char (116 : Int32))), (.int (nar .char (61 : Int32))), (.int (nar .char ((48 : Int32) + r1_67))), (.int (nar .char (44 : Int32))), (.int (nar .char (32 : Int32))), (.int (nar .char (100 : Int32))), (.int (0 : Int32)), (.int (0 : Int32)), (.int (0 : Int32)), (.int (0 : Int32)), (.int (0 : Int32)), (.int (0 : Int32))] (.int (0 : Int32)) := Arv.set Ar259 q259 S259 N259 H259 G259 (fits_nar_char _) W261 42 rfl (Nat.le_of_ble_eq_true rfl)
  refine own_go (fun _ => XS.dup X261.here hx rfl (hb hby at_469) rfl rfl) ?_
  refine own_go (fun _ => XS.bipush X261.here hx rfl (hb hby at_470)) ?_
  refine own_go (fun _ => XS.bipush X261.here hx rfl (hb hby at_472)) ?_
  obtain ⟨cl263, Ar263, q263, S263, N263, H263, G263⟩ := id V261
  have sf264 := Safe.arr (EL := own_EL) hZ.alike Ar263 (by decide)
  have hin263 : ¬ ((43 : Int32) < 0 ∨ cl263.slots.size ≤ ((43 : Int32)).toNatClampNeg) := inb_of S263 ⟨by decide, by decide⟩
  obtain ⟨T265, h265, X265, e265, W265, st265⟩ := stC X261 hx hZ e261 Ar263 (j := (43 : Int32)) hin263 (g := (mkF m 474 #[.val (.long xw), .second, .val (.long xd), .second, .val (.long xf), .second, .val (.long xx), .second, .val (.long xv), .second, .val (.int xs), .val (.long bw), .second, .val (.long bd), .second, .val (.long bf), .second, .val (.long bx), .second, .val (.ref b14), .val (.ref b23), .val (.int sm), .val (.int (1 : Int32)), .val (.int r1_65), .val (.int r1_66), .val (.int r1_67), .val (.int r1_68), .val (.ref b69), .unset, .unset] [(.int (101 : Int32)), (.int (43 : Int32)), (.ref b78), (.ref b78)])) rfl rfl (hb hby at_474)
  refine own_go st265 ?_
  have CH266 := CHr.trans CH262 (CHr.wr W265 sf264 CH262.1)
  have le_265 : h261.size ≤ h265.size := Nat.le_of_eq W265.size.symm
  have K265 : Keep h0 h265 [] := Keep.wr K261 W265 (Or.inr sz85)
  have N265 := Fr.snoc X265 N261 ge84
  have V265 : Arv Z h265 b78 k78 .char (49 : Int32) [(.int (nar .char (81 : Int32))), (.int (nar .char (117 : Int32))), (.int (nar .char (101 : Int32))), (.int (nar .char (117 : Int32))), (.int (nar .char (101 : Int32))), (.int (nar .char (67 : Int32))), (.int (nar .char (111 : Int32))), (.int (nar .char (117 : Int32))), (.int (nar .char (110 : Int32))), (.int (nar .char (116 : Int32))), (.int (nar .char (115 : Int32))), (.int (nar .char (91 : Int32))), (.int (nar .char (119 : Int32))), (.int (nar .char (97 : Int32))), (.int (nar .char (105 : Int32))), (.int (nar .char (116 : Int32))), (.int (nar .char (105 : Int32))), (.int (nar .char (110 : Int32))), (.int (nar .char (103 : Int32))), (.int (nar .char (61 : Int32))), (.int (nar .char ((48 : Int32) + r1_65))), (.int (nar .char (44 : Int32))), (.int (nar .char (32 : Int32))), (.int (nar .char (100 : Int32))), (.int (nar .char (117 : Int32))), (.int (nar .char (101 : Int32))), (.int (nar .char (61 : Int32))), (.int (nar .char ((48 : Int32) + r1_66))), (.int (nar .char (44 : Int32))), (.int (nar .char (32 : Int32))), (.int (nar .char (105 : Int32))), (.int (nar .char (110 : Int32))), (.int (nar .char (70 : Int32))), (.int (nar .char (108 : Int32))), (.int (nar .char (105 : Int32))), (.int (nar .char (103 : Int32))), (.int (nar .char (104 : Int32))), (.int (nar .char (116 : Int32))), (.int (nar .char (61 : Int32))), (.int (nar .char ((48 : Int32) + r1_67))), (.int (nar .char (44 : Int32))), (.int (nar .char (32 : Int32))), (.int (nar .char (100 : Int32))), (.int (nar .char (101 : Int32))), (.int (0 : Int32)), (.int (0 : Int32)), (.int (0 : Int32)), (.int (0 : Int32)), (.int (0 : Int32))] (.int (0 : Int32)) := Arv.set Ar263 q263 S263 N263 H263 G263 (fits_nar_char _) W265 43 rfl (Nat.le_of_ble_eq_true rfl)
  refine own_go (fun _ => XS.dup X265.here hx rfl (hb hby at_475) rfl rfl) ?_
  refine own_go (fun _ => XS.bipush X265.here hx rfl (hb hby at_476)) ?_
  show ∃ t o, Steps p.tables e below (T265.setTop (mkF m 478 #[.val (.long xw), .second, .val (.long xd), .second, .val (.long xf), .second, .val (.long xx), .second, .val (.long xv), .second, .val (.int xs), .val (.long bw), .second, .val (.long bd), .second, .val (.long bf), .second, .val (.long bx), .second, .val (.ref b14), .val (.ref b23), .val (.int sm), .val (.int (1 : Int32)), .val (.int r1_65), .val (.int r1_66), .val (.int r1_67), .val (.int r1_68), .val (.ref b69), .unset, .unset] [(.int (44 : Int32)), (.ref b78), (.ref b78)])) t ∧ _
  refine own_go (fun _ => XS.bipush X265.here hx rfl (hb hby at_478)) ?_
  obtain ⟨cl267, Ar267, q267, S267, N267, H267, G267⟩ := id V265
  have sf268 := Safe.arr (EL := own_EL) hZ.alike Ar267 (by decide)
  have hin267 : ¬ ((44 : Int32) < 0 ∨ cl267.slots.size ≤ ((44 : Int32)).toNatClampNeg) := inb_of S267 ⟨by decide, by decide⟩
  obtain ⟨T269, h269, X269, e269, W269, st269⟩ := stC X265 hx hZ e265 Ar267 (j := (44 : Int32)) hin267 (g := (mkF m 480 #[.val (.long xw), .second, .val (.long xd), .second, .val (.long xf), .second, .val (.long xx), .second, .val (.long xv), .second, .val (.int xs), .val (.long bw), .second, .val (.long bd), .second, .val (.long bf), .second, .val (.long bx), .second, .val (.ref b14), .val (.ref b23), .val (.int sm), .val (.int (1 : Int32)), .val (.int r1_65), .val (.int r1_66), .val (.int r1_67), .val (.int r1_68), .val (.ref b69), .unset, .unset] [(.int (97 : Int32)), (.int (44 : Int32)), (.ref b78), (.ref b78)])) rfl rfl (hb hby at_480)
  refine own_go st269 ?_
  have CH270 := CHr.trans CH266 (CHr.wr W269 sf268 CH266.1)
  have le_269 : h265.size ≤ h269.size := Nat.le_of_eq W269.size.symm
  have K269 : Keep h0 h269 [] := Keep.wr K265 W269 (Or.inr sz85)
  have N269 := Fr.snoc X269 N265 ge84
  have V269 : Arv Z h269 b78 k78 .char (49 : Int32) [(.int (nar .char (81 : Int32))), (.int (nar .char (117 : Int32))), (.int (nar .char (101 : Int32))), (.int (nar .char (117 : Int32))), (.int (nar .char (101 : Int32))), (.int (nar .char (67 : Int32))), (.int (nar .char (111 : Int32))), (.int (nar .char (117 : Int32))), (.int (nar .char (110 : Int32))), (.int (nar .char (116 : Int32))), (.int (nar .char (115 : Int32))), (.int (nar .char (91 : Int32))), (.int (nar .char (119 : Int32))), (.int (nar .char (97 : Int32))), (.int (nar .char (105 : Int32))), (.int (nar .char (116 : Int32))), (.int (nar .char (105 : Int32))), (.int (nar .char (110 : Int32))), (.int (nar .char (103 : Int32))), (.int (nar .char (61 : Int32))), (.int (nar .char ((48 : Int32) + r1_65))), (.int (nar .char (44 : Int32))), (.int (nar .char (32 : Int32))), (.int (nar .char (100 : Int32))), (.int (nar .char (117 : Int32))), (.int (nar .char (101 : Int32))), (.int (nar .char (61 : Int32))), (.int (nar .char ((48 : Int32) + r1_66))), (.int (nar .char (44 : Int32))), (.int (nar .char (32 : Int32))), (.int (nar .char (105 : Int32))), (.int (nar .char (110 : Int32))), (.int (nar .char (70 : Int32))), (.int (nar .char (108 : Int32))), (.int (nar .char (105 : Int32))), (.int (nar .char (103 : Int32))), (.int (nar .char (104 : Int32))), (.int (nar .char (116 : Int32))), (.int (nar .char (61 : Int32))), (.int (nar .char ((48 : Int32) + r1_67))), (.int (nar .char (44 : Int32))), (.int (nar .char (32 : Int32))), (.int (nar .char (100 : Int32))), (.int (nar .char (101 : Int32))), (.int (nar .char (97 : Int32))), (.int (0 : Int32)), (.int (0 : Int32)), (.int (0 : Int32)), (.int (0 : Int32))] (.int (0 : Int32)) := Arv.set Ar267 q267 S267 N267 H267 G267 (fits_nar_char _) W269 44 rfl (Nat.le_of_ble_eq_true rfl)
  refine own_go (fun _ => XS.dup X269.here hx rfl (hb hby at_481) rfl rfl) ?_
  refine own_go (fun _ => XS.bipush X269.here hx rfl (hb hby at_482)) ?_
  refine own_go (fun _ => XS.bipush X269.here hx rfl (hb hby at_484)) ?_
  obtain ⟨cl271, Ar271, q271, S271, N271, H271, G271⟩ := id V269
  have sf272 := Safe.arr (EL := own_EL) hZ.alike Ar271 (by decide)
  have hin271 : ¬ ((45 : Int32) < 0 ∨ cl271.slots.size ≤ ((45 : Int32)).toNatClampNeg) := inb_of S271 ⟨by decide, by decide⟩
  obtain ⟨T273, h273, X273, e273, W273, st273⟩ := stC X269 hx hZ e269 Ar271 (j := (45 : Int32)) hin271 (g := (mkF m 486 #[.val (.long xw), .second, .val (.long xd), .second, .val (.long xf), .second, .val (.long xx), .second, .val (.long xv), .second, .val (.int xs), .val (.long bw), .second, .val (.long bd), .second, .val (.long bf), .second, .val (.long bx), .second, .val (.ref b14), .val (.ref b23), .val (.int sm), .val (.int (1 : Int32)), .val (.int r1_65), .val (.int r1_66), .val (.int r1_67), .val (.int r1_68), .val (.ref b69), .unset, .unset] [(.int (100 : Int32)), (.int (45 : Int32)), (.ref b78), (.ref b78)])) rfl rfl (hb hby at_486)
  refine own_go st273 ?_
  have CH274 := CHr.trans CH270 (CHr.wr W273 sf272 CH270.1)
  have le_273 : h269.size ≤ h273.size := Nat.le_of_eq W273.size.symm
  have K273 : Keep h0 h273 [] := Keep.wr K269 W273 (Or.inr sz85)
  have N273 := Fr.snoc X273 N269 ge84
  have V273 : Arv Z h273 b78 k78 .char (49 : Int32) [(.int (nar .char (81 : Int32))), (.int (nar .char (117 : Int32))), (.int (nar .char (101 : Int32))), (.int (nar .char (117 : Int32))), (.int (nar .char (101 : Int32))), (.int (nar .char (67 : Int32))), (.int (nar .char (111 : Int32))), (.int (nar .char (117 : Int32))), (.int (nar .char (110 : Int32))), (.int (nar .char (116 : Int32))), (.int (nar .char (115 : Int32))), (.int (nar .char (91 : Int32))), (.int (nar .char (119 : Int32))), (.int (nar .char (97 : Int32))), (.int (nar .char (105 : Int32))), (.int (nar .char (116 : Int32))), (.int (nar .char (105 : Int32))), (.int (nar .char (110 : Int32))), (.int (nar .char (103 : Int32))), (.int (nar .char (61 : Int32))), (.int (nar .char ((48 : Int32) + r1_65))), (.int (nar .char (44 : Int32))), (.int (nar .char (32 : Int32))), (.int (nar .char (100 : Int32))), (.int (nar .char (117 : Int32))), (.int (nar .char (101 : Int32))), (.int (nar .char (61 : Int32))), (.int (nar .char ((48 : Int32) + r1_66))), (.int (nar .char (44 : Int32))), (.int (nar .char (32 : Int32))), (.int (nar .char (105 : Int32))), (.int (nar .char (110 : Int32))), (.int (nar .char (70 : Int32))), (.int (nar .char (108 : Int32))), (.int (nar .char (105 : Int32))), (.int (nar .char (103 : Int32))), (.int (nar .char (104 : Int32))), (.int (nar .char (116 : Int32))), (.int (nar .char (61 : Int32))), (.int (nar .char ((48 : Int32) + r1_67))), (.int (nar .char (44 : Int32))), (.int (nar .char (32 : Int32))), (.int (nar .char (100 : Int32))), (.int (nar .char (101 : Int32))), (.int (nar .char (97 : Int32))), (.int (nar .char (100 : Int32))), (.int (0 : Int32)), (.int (0 : Int32)), (.int (0 : Int32))] (.int (0 : Int32)) := Arv.set Ar271 q271 S271 N271 H271 G271 (fits_nar_char _) W273 45 rfl (Nat.le_of_ble_eq_true rfl)
  refine own_go (fun _ => XS.dup X273.here hx rfl (hb hby at_487) rfl rfl) ?_
  refine own_go (fun _ => XS.bipush X273.here hx rfl (hb hby at_488)) ?_
  refine own_go (fun _ => XS.bipush X273.here hx rfl (hb hby at_490)) ?_
  obtain ⟨cl275, Ar275, q275, S275, N275, H275, G275⟩ := id V273
  have sf276 := Safe.arr (EL := own_EL) hZ.alike Ar275 (by decide)
  have hin275 : ¬ ((46 : Int32) < 0 ∨ cl275.slots.size ≤ ((46 : Int32)).toNatClampNeg) := inb_of S275 ⟨by decide, by decide⟩
  obtain ⟨T277, h277, X277, e277, W277, st277⟩ := stC X273 hx hZ e273 Ar275 (j := (46 : Int32)) hin275 (g := (mkF m 492 #[.val (.long xw), .second, .val (.long xd), .second, .val (.long xf), .second, .val (.long xx), .second, .val (.long xv), .second, .val (.int xs), .val (.long bw), .second, .val (.long bd), .second, .val (.long bf), .second, .val (.long bx), .second, .val (.ref b14), .val (.ref b23), .val (.int sm), .val (.int (1 : Int32)), .val (.int r1_65), .val (.int r1_66), .val (.int r1_67), .val (.int r1_68), .val (.ref b69), .unset, .unset] [(.int (61 : Int32)), (.int (46 : Int32)), (.ref b78), (.ref b78)])) rfl rfl (hb hby at_492)
  refine own_go st277 ?_
  have CH278 := CHr.trans CH274 (CHr.wr W277 sf276 CH274.1)
  have le_277 : h273.size ≤ h277.size := Nat.le_of_eq W277.size.symm
  have K277 : Keep h0 h277 [] := Keep.wr K273 W277 (Or.inr sz85)
  have N277 := Fr.snoc X277 N273 ge84
  have V277 : Arv Z h277 b78 k78 .char (49 : Int32) [(.int (nar .char (81 : Int32))), (.int (nar .char (117 : Int32))), (.int (nar .char (101 : Int32))), (.int (nar .char (117 : Int32))), (.int (nar .char (101 : Int32))), (.int (nar .char (67 : Int32))), (.int (nar .char (111 : Int32))), (.int (nar .char (117 : Int32))), (.int (nar .char (110 : Int32))), (.int (nar .char (116 : Int32))), (.int (nar .char (115 : Int32))), (.int (nar .char (91 : Int32))), (.int (nar .char (119 : Int32))), (.int (nar .char (97 : Int32))), (.int (nar .char (105 : Int32))), (.int (nar .char (116 : Int32))), (.int (nar .char (105 : Int32))), (.int (nar .char (110 : Int32))), (.int (nar .char (103 : Int32))), (.int (nar .char (61 : Int32))), (.int (nar .char ((48 : Int32) + r1_65))), (.int (nar .char (44 : Int32))), (.int (nar .char (32 : Int32))), (.int (nar .char (100 : Int32))), (.int (nar .char (117 : Int32))), (.int (nar .char (101 : Int32))), (.int (nar .char (61 : Int32))), (.int (nar .char ((48 : Int32) + r1_66))), (.int (nar .char (44 : Int32))), (.int (nar .char (32 : Int32))), (.int (nar .char (105 : Int32))), (.int (nar .char (110 : Int32))), (.int (nar .char (70 : Int32))), (.int (nar .char (108 : Int32))), (.int (nar .char (105 : Int32))), (.int (nar .char (103 : Int32))), (.int (nar .char (104 : Int32))), (.int (nar .char (116 : Int32))), (.int (nar .char (61 : Int32))), (.int (nar .char ((48 : Int32) + r1_67))), (.int (nar .char (44 : Int32))), (.int (nar .char (32 : Int32))), (.int (nar .char (100 : Int32))), (.int (nar .char (101 : Int32))), (.int (nar .char (97 : Int32))), (.int (nar .char (100 : Int32))), (.int (nar .char (61 : Int32))), (.int (0 : Int32)), (.int (0 : Int32))] (.int (0 : Int32)) := Arv.set Ar275 q275 S275 N275 H275 G275 (fits_nar_char _) W277 46 rfl (Nat.le_of_ble_eq_true rfl)
  show ∃ t o, Steps p.tables e below (T277.setTop (mkF m 493 #[.val (.long xw), .second, .val (.long xd), .second, .val (.long xf), .second, .val (.long xx), .second, .val (.long xv), .second, .val (.int xs), .val (.long bw), .second, .val (.long bd), .second, .val (.long bf), .second, .val (.long bx), .second, .val (.ref b14), .val (.ref b23), .val (.int sm), .val (.int (1 : Int32)), .val (.int r1_65), .val (.int r1_66), .val (.int r1_67), .val (.int r1_68), .val (.ref b69), .unset, .unset] [(.ref b78)])) t ∧ _
  refine own_go (fun _ => XS.dup X277.here hx rfl (hb hby at_493) rfl rfl) ?_
  refine own_go (fun _ => XS.bipush X277.here hx rfl (hb hby at_494)) ?_
  refine own_go (fun _ => XS.iload X277.here hx rfl (hb hby at_496) rfl) ?_
  show ∃ t o, Steps p.tables e below (T277.setTop (mkF m 498 #[.val (.long xw), .second, .val (.long xd), .second, .val (.long xf), .second, .val (.long xx), .second, .val (.long xv), .second, .val (.int xs), .val (.long bw), .second, .val (.long bd), .second, .val (.long bf), .second, .val (.long bx), .second, .val (.ref b14), .val (.ref b23), .val (.int sm), .val (.int (1 : Int32)), .val (.int r1_65), .val (.int r1_66), .val (.int r1_67), .val (.int r1_68), .val (.ref b69), .unset, .unset] [(.int r1_68), (.int (47 : Int32)), (.ref b78), (.ref b78)])) t ∧ _
  have F279 := (Old.wr (Old.wr (Old.wr (Old.wr (Old.wr (Old.wr (Old.wr (Old.wr F244 W249 ge84) W253 ge84) W257 ge84) W261 ge84) W265 ge84) W269 ge84) W273 ge84) W277 ge84)
  have zl280 : n0 ≤ h277.size := by omega
  obtain ⟨_, _, ⟨T281, L281, k281, n281⟩, -, X281, ⟨Lc281, hQ281, l281, y281, z281⟩, st281⟩ := Jvm.LawKit.callS X277 hx (y := (⟨"com/example/libtardy/libtardy/QueueCountsToStringPinLaw", "ch", "(I)C"⟩ : MethodName)) hown (mvT hZ w_206) (mvT hZ w_207) (mvT hZ w_202) (mvT hZ w_208) (by decide) (backOf (W := 3) (rmCh l Z a0 hw [] r1_68 h277 n0 zl280 F279 (H68_0 : own_d9 r1_68)) hZ w_208 w_202 (by decide) (by decide)) (g := (mkF m 498 #[.val (.long xw), .second, .val (.long xd), .second, .val (.long xf), .second, .val (.long xx), .second, .val (.long xv), .second, .val (.int xs), .val (.long bw), .second, .val (.long bd), .second, .val (.long bf), .second, .val (.long bx), .second, .val (.ref b14), .val (.ref b23), .val (.int sm), .val (.int (1 : Int32)), .val (.int r1_65), .val (.int r1_66), .val (.int r1_67), .val (.int r1_68), .val (.ref b69), .unset, .unset] [(.int r1_68), (.int (47 : Int32)), (.ref b78), (.ref b78)])) rfl (by rw [hml]; rfl) (argsL := [(.int r1_68)]) (rest := [(.int (47 : Int32)), (.ref b78), (.ref b78)]) (lenOf pd__28I_29C rfl) rfl (by show 2 * 0 + _ ≤ _; exact Nat.le_of_eq rfl) (hb hby at_498) (fun _ _ => ⟨rfl, e277, (by decide : 48 + 0 ≤ _), (by decide : 3065 + 0 ≤ _)⟩)
  dsimp only [Pt.U, Pt.locs, Pt.cells, Pt.slots] at X281 l281 y281 z281 st281 hQ281
  rw [l281, y281, z281] at X281
  obtain ⟨rfl, Nq281, e281⟩ := hQ281
  have N281 := Fr.app N277 Nq281
  refine own_go st281 ?_
  obtain ⟨cl282, Ar282, q282, S282, N282, H282, G282⟩ := id V277
  have sf283 := Safe.arr (EL := own_EL) hZ.alike Ar282 (by decide)
  have hin282 : ¬ ((47 : Int32) < 0 ∨ cl282.slots.size ≤ ((47 : Int32)).toNatClampNeg) := inb_of S282 ⟨by decide, by decide⟩
  obtain ⟨T284, h284, X284, e284, W284, st284⟩ := stC X281 hx hZ e281 Ar282 (j := (47 : Int32)) hin282 (g := (mkF m 501 #[.val (.long xw), .second, .val (.long xd), .second, .val (.long xf), .second, .val (.long xx), .second, .val (.long xv), .second, .val (.int xs), .val (.long bw), .second, .val (.long bd), .second, .val (.long bf), .second, .val (.long bx), .second, .val (.ref b14), .val (.ref b23), .val (.int sm), .val (.int (1 : Int32)), .val (.int r1_65), .val (.int r1_66), .val (.int r1_67), .val (.int r1_68), .val (.ref b69), .unset, .unset] [(.int ((48 : Int32) + r1_68)), (.int (47 : Int32)), (.ref b78), (.ref b78)])) rfl rfl (hb hby at_501)
  refine own_go st284 ?_
  have CH285 := CHr.trans CH278 (CHr.wr W284 sf283 CH278.1)
  have le_284 : h277.size ≤ h284.size := Nat.le_of_eq W284.size.symm
  have K284 : Keep h0 h284 [] := Keep.wr K277 W284 (Or.inr sz85)
  have N284 := Fr.snoc X284 N281 ge84
  have V284 : Arv Z h284 b78 k78 .char (49 : Int32) [(.int (nar .char (81 : Int32))), (.int (nar .char (117 : Int32))), (.int (nar .char (101 : Int32))), (.int (nar .char (117 : Int32))), (.int (nar .char (101 : Int32))), (.int (nar .char (67 : Int32))), (.int (nar .char (111 : Int32))), (.int (nar .char (117 : Int32))), (.int (nar .char (110 : Int32))), (.int (nar .char (116 : Int32))), (.int (nar .char (115 : Int32))), (.int (nar .char (91 : Int32))), (.int (nar .char (119 : Int32))), (.int (nar .char (97 : Int32))), (.int (nar .char (105 : Int32))), (.int (nar .char (116 : Int32))), (.int (nar .char (105 : Int32))), (.int (nar .char (110 : Int32))), (.int (nar .char (103 : Int32))), (.int (nar .char (61 : Int32))), (.int (nar .char ((48 : Int32) + r1_65))), (.int (nar .char (44 : Int32))), (.int (nar .char (32 : Int32))), (.int (nar .char (100 : Int32))), (.int (nar .char (117 : Int32))), (.int (nar .char (101 : Int32))), (.int (nar .char (61 : Int32))), (.int (nar .char ((48 : Int32) + r1_66))), (.int (nar .char (44 : Int32))), (.int (nar .char (32 : Int32))), (.int (nar .char (105 : Int32))), (.int (nar .char (110 : Int32))), (.int (nar .char (70 : Int32))), (.int (nar .char (108 : Int32))), (.int (nar .char (105 : Int32))), (.int (nar .char (103 : Int32))), (.int (nar .char (104 : Int32))), (.int (nar .char (116 : Int32))), (.int (nar .char (61 : Int32))), (.int (nar .char ((48 : Int32) + r1_67))), (.int (nar .char (44 : Int32))), (.int (nar .char (32 : Int32))), (.int (nar .char (100 : Int32))), (.int (nar .char (101 : Int32))), (.int (nar .char (97 : Int32))), (.int (nar .char (100 : Int32))), (.int (nar .char (61 : Int32))), (.int (nar .char ((48 : Int32) + r1_68))), (.int (0 : Int32))] (.int (0 : Int32)) := Arv.set Ar282 q282 S282 N282 H282 G282 (fits_nar_char _) W284 47 rfl (Nat.le_of_ble_eq_true rfl)
  refine own_go (fun _ => XS.dup X284.here hx rfl (hb hby at_502) rfl rfl) ?_
  refine own_go (fun _ => XS.bipush X284.here hx rfl (hb hby at_503)) ?_
  refine own_go (fun _ => XS.bipush X284.here hx rfl (hb hby at_505)) ?_
  obtain ⟨cl286, Ar286, q286, S286, N286, H286, G286⟩ := id V284
  have sf287 := Safe.arr (EL := own_EL) hZ.alike Ar286 (by decide)
  have hin286 : ¬ ((48 : Int32) < 0 ∨ cl286.slots.size ≤ ((48 : Int32)).toNatClampNeg) := inb_of S286 ⟨by decide, by decide⟩
  obtain ⟨T288, h288, X288, e288, W288, st288⟩ := stC X284 hx hZ e284 Ar286 (j := (48 : Int32)) hin286 (g := (mkF m 507 #[.val (.long xw), .second, .val (.long xd), .second, .val (.long xf), .second, .val (.long xx), .second, .val (.long xv), .second, .val (.int xs), .val (.long bw), .second, .val (.long bd), .second, .val (.long bf), .second, .val (.long bx), .second, .val (.ref b14), .val (.ref b23), .val (.int sm), .val (.int (1 : Int32)), .val (.int r1_65), .val (.int r1_66), .val (.int r1_67), .val (.int r1_68), .val (.ref b69), .unset, .unset] [(.int (93 : Int32)), (.int (48 : Int32)), (.ref b78), (.ref b78)])) rfl rfl (hb hby at_507)
  refine own_go st288 ?_
  have CH289 := CHr.trans CH285 (CHr.wr W288 sf287 CH285.1)
  have le_288 : h284.size ≤ h288.size := Nat.le_of_eq W288.size.symm
  have K288 : Keep h0 h288 [] := Keep.wr K284 W288 (Or.inr sz85)
  have N288 := Fr.snoc X288 N284 ge84
  have V288 : Arv Z h288 b78 k78 .char (49 : Int32) [(.int (nar .char (81 : Int32))), (.int (nar .char (117 : Int32))), (.int (nar .char (101 : Int32))), (.int (nar .char (117 : Int32))), (.int (nar .char (101 : Int32))), (.int (nar .char (67 : Int32))), (.int (nar .char (111 : Int32))), (.int (nar .char (117 : Int32))), (.int (nar .char (110 : Int32))), (.int (nar .char (116 : Int32))), (.int (nar .char (115 : Int32))), (.int (nar .char (91 : Int32))), (.int (nar .char (119 : Int32))), (.int (nar .char (97 : Int32))), (.int (nar .char (105 : Int32))), (.int (nar .char (116 : Int32))), (.int (nar .char (105 : Int32))), (.int (nar .char (110 : Int32))), (.int (nar .char (103 : Int32))), (.int (nar .char (61 : Int32))), (.int (nar .char ((48 : Int32) + r1_65))), (.int (nar .char (44 : Int32))), (.int (nar .char (32 : Int32))), (.int (nar .char (100 : Int32))), (.int (nar .char (117 : Int32))), (.int (nar .char (101 : Int32))), (.int (nar .char (61 : Int32))), (.int (nar .char ((48 : Int32) + r1_66))), (.int (nar .char (44 : Int32))), (.int (nar .char (32 : Int32))), (.int (nar .char (105 : Int32))), (.int (nar .char (110 : Int32))), (.int (nar .char (70 : Int32))), (.int (nar .char (108 : Int32))), (.int (nar .char (105 : Int32))), (.int (nar .char (103 : Int32))), (.int (nar .char (104 : Int32))), (.int (nar .char (116 : Int32))), (.int (nar .char (61 : Int32))), (.int (nar .char ((48 : Int32) + r1_67))), (.int (nar .char (44 : Int32))), (.int (nar .char (32 : Int32))), (.int (nar .char (100 : Int32))), (.int (nar .char (101 : Int32))), (.int (nar .char (97 : Int32))), (.int (nar .char (100 : Int32))), (.int (nar .char (61 : Int32))), (.int (nar .char ((48 : Int32) + r1_68))), (.int (nar .char (93 : Int32)))] (.int (0 : Int32)) := Arv.set Ar286 q286 S286 N286 H286 G286 (fits_nar_char _) W288 48 rfl (Nat.le_of_ble_eq_true rfl)
  refine own_go (fun _ => XS.astore X288.here hx rfl (hb hby at_508) rfl rfl (l' := #[.val (.long xw), .second, .val (.long xd), .second, .val (.long xf), .second, .val (.long xx), .second, .val (.long xv), .second, .val (.int xs), .val (.long bw), .second, .val (.long bd), .second, .val (.long bf), .second, .val (.long bx), .second, .val (.ref b14), .val (.ref b23), .val (.int sm), .val (.int (1 : Int32)), .val (.int r1_65), .val (.int r1_66), .val (.int r1_67), .val (.int r1_68), .val (.ref b69), .val (.ref b78), .unset]) rfl) ?_
  refine own_go (fun _ => XS.aload X288.here hx rfl (hb hby at_510) rfl rfl) ?_
  show ∃ t o, Steps p.tables e below (T288.setTop (mkF m 512 #[.val (.long xw), .second, .val (.long xd), .second, .val (.long xf), .second, .val (.long xx), .second, .val (.long xv), .second, .val (.int xs), .val (.long bw), .second, .val (.long bd), .second, .val (.long bf), .second, .val (.long bx), .second, .val (.ref b14), .val (.ref b23), .val (.int sm), .val (.int (1 : Int32)), .val (.int r1_65), .val (.int r1_66), .val (.int r1_67), .val (.int r1_68), .val (.ref b69), .val (.ref b78), .unset] [(.ref b69)])) t ∧ _
  have F290 := (Exa.wr W288 (Exa.wr W284 (Exa.wr W277 (Exa.wr W273 (Exa.wr W269 (Exa.wr W265 (Exa.wr W261 (Exa.wr W257 (Exa.wr W253 (Exa.wr W249 (Exa.wr W242 (Exa.wr W238 (Exa.wr W234 (Exa.wr W230 (Exa.wr W226 (Exa.wr W222 (Exa.wr W218 (Exa.wr W214 (Exa.wr W210 (Exa.wr W206 (Exa.wr W202 (Exa.wr W198 (Exa.wr W191 (Exa.wr W187 (Exa.wr W183 (Exa.wr W179 (Exa.wr W175 (Exa.wr W171 (Exa.wr W167 (Exa.wr W160 (Exa.wr W156 (Exa.wr W152 (Exa.wr W148 (Exa.wr W144 (Exa.wr W140 (Exa.wr W136 (Exa.wr W132 (Exa.wr W128 (Exa.wr W124 (Exa.wr W120 (Exa.wr W116 (Exa.wr W112 (Exa.wr W108 (Exa.wr W104 (Exa.wr W100 (Exa.wr W96 (Exa.wr W92 (Exa.wr W88 (Exa.wr W82 (Exa.ext E78 G75_0))))))))))))))))))))))))))))))))))))))))))))))))))
  have ne291 : b69 ≠ b78 := own_ne (by omega)
  have F292 := (Fld.other W288 (Fld.other W284 (Fld.other W277 (Fld.other W273 (Fld.other W269 (Fld.other W265 (Fld.other W261 (Fld.other W257 (Fld.other W253 (Fld.other W249 (Fld.other W242 (Fld.other W238 (Fld.other W234 (Fld.other W230 (Fld.other W226 (Fld.other W222 (Fld.other W218 (Fld.other W214 (Fld.other W210 (Fld.other W206 (Fld.other W202 (Fld.other W198 (Fld.other W191 (Fld.other W187 (Fld.other W183 (Fld.other W179 (Fld.other W175 (Fld.other W171 (Fld.other W167 (Fld.other W160 (Fld.other W156 (Fld.other W152 (Fld.other W148 (Fld.other W144 (Fld.other W140 (Fld.other W136 (Fld.other W132 (Fld.other W128 (Fld.other W124 (Fld.other W120 (Fld.other W116 (Fld.other W112 (Fld.other W108 (Fld.other W104 (Fld.other W100 (Fld.other W96 (Fld.other W92 (Fld.other W88 (Fld.other W82 (Fld.ext E78 G75_1) (Or.inl ne291)) (Or.inl ne291)) (Or.inl ne291)) (Or.inl ne291)) (Or.inl ne291)) (Or.inl ne291)) (Or.inl ne291)) (Or.inl ne291)) (Or.inl ne291)) (Or.inl ne291)) (Or.inl ne291)) (Or.inl ne291)) (Or.inl ne291)) (Or.inl ne291)) (Or.inl ne291)) (Or.inl ne291)) (Or.inl ne291)) (Or.inl ne291)) (Or.inl ne291)) (Or.inl ne291)) (Or.inl ne291)) (Or.inl ne291)) (Or.inl ne291)) (Or.inl ne291)) (Or.inl ne291)) (Or.inl ne291)) (Or.inl ne291)) (Or.inl ne291)) (Or.inl ne291)) (Or.inl ne291)) (Or.inl ne291)) (Or.inl ne291)) (Or.inl ne291)) (Or.inl ne291)) (Or.inl ne291)) (Or.inl ne291)) (Or.inl ne291)) (Or.inl ne291)) (Or.inl ne291)) (Or.inl ne291)) (Or.inl ne291)) (Or.inl ne291)) (Or.inl ne291)) (Or.inl ne291)) (Or.inl ne291)) (Or.inl ne291)) (Or.inl ne291)) (Or.inl ne291)) (Or.inl ne291))
  have F293 := (Fld.other W288 (Fld.other W284 (Fld.other W277 (Fld.other W273 (Fld.other W269 (Fld.other W265 (Fld.other W261 (Fld.other W257 (Fld.other W253 (Fld.other W249 (Fld.other W242 (Fld.other W238 (Fld.other W234 (Fld.other W230 (Fld.other W226 (Fld.other W222 (Fld.other W218 (Fld.other W214 (Fld.other W210 (Fld.other W206 (Fld.other W202 (Fld.other W198 (Fld.other W191 (Fld.other W187 (Fld.other W183 (Fld.other W179 (Fld.other W175 (Fld.other W171 (Fld.other W167 (Fld.other W160 (Fld.other W156 (Fld.other W152 (Fld.other W148 (Fld.other W144 (Fld.other W140 (Fld.other W136 (Fld.other W132 (Fld.other W128 (Fld.other W124 (Fld.other W120 (Fld.other W116 (Fld.other W112 (Fld.other W108 (Fld.other W104 (Fld.other W100 (Fld.other W96 (Fld.other W92 (Fld.other W88 (Fld.other W82 (Fld.ext E78 G75_2) (Or.inl ne291)) (Or.inl ne291)) (Or.inl ne291)) (Or.inl ne291)) (Or.inl ne291)) (Or.inl ne291)) (Or.inl ne291)) (Or.inl ne291)) (Or.inl ne291)) (Or.inl ne291)) (Or.inl ne291)) (Or.inl ne291)) (Or.inl ne291)) (Or.inl ne291)) (Or.inl ne291)) (Or.inl ne291)) (Or.inl ne291)) (Or.inl ne291)) (Or.inl ne291)) (Or.inl ne291)) (Or.inl ne291)) (Or.inl ne291)) (Or.inl ne291)) (Or.inl ne291)) (Or.inl ne291)) (Or.inl ne291)) (Or.inl ne291)) (Or.inl ne291)) (Or.inl ne291)) (Or.inl ne291)) (Or.inl ne291)) (Or.inl ne291)) (Or.inl ne291)) (Or.inl ne291)) (Or.inl ne291)) (Or.inl ne291)) (Or.inl ne291)) (Or.inl ne291)) (Or.inl ne291)) (Or.inl ne291)) (Or.inl ne291)) (Or.inl ne291)) (Or.inl ne291)) (Or.inl ne291)) (Or.inl ne291)) (Or.inl ne291)) (Or.inl ne291)) (Or.inl ne291)) (Or.inl ne291))
  have F294 := (Fld.other W288 (Fld.other W284 (Fld.other W277 (Fld.other W273 (Fld.other W269 (Fld.other W265 (Fld.other W261 (Fld.other W257 (Fld.other W253 (Fld.other W249 (Fld.other W242 (Fld.other W238 (Fld.other W234 (Fld.other W230 (Fld.other W226 (Fld.other W222 (Fld.other W218 (Fld.other W214 (Fld.other W210 (Fld.other W206 (Fld.other W202 (Fld.other W198 (Fld.other W191 (Fld.other W187 (Fld.other W183 (Fld.other W179 (Fld.other W175 (Fld.other W171 (Fld.other W167 (Fld.other W160 (Fld.other W156 (Fld.other W152 (Fld.other W148 (Fld.other W144 (Fld.other W140 (Fld.other W136 (Fld.other W132 (Fld.other W128 (Fld.other W124 (Fld.other W120 (Fld.other W116 (Fld.other W112 (Fld.other W108 (Fld.other W104 (Fld.other W100 (Fld.other W96 (Fld.other W92 (Fld.other W88 (Fld.other W82 (Fld.ext E78 G75_3) (Or.inl ne291)) (Or.inl ne291)) (Or.inl ne291)) (Or.inl ne291)) (Or.inl ne291)) (Or.inl ne291)) (Or.inl ne291)) (Or.inl ne291)) (Or.inl ne291)) (Or.inl ne291)) (Or.inl ne291)) (Or.inl ne291)) (Or.inl ne291)) (Or.inl ne291)) (Or.inl ne291)) (Or.inl ne291)) (Or.inl ne291)) (Or.inl ne291)) (Or.inl ne291)) (Or.inl ne291)) (Or.inl ne291)) (Or.inl ne291)) (Or.inl ne291)) (Or.inl ne291)) (Or.inl ne291)) (Or.inl ne291)) (Or.inl ne291)) (Or.inl ne291)) (Or.inl ne291)) (Or.inl ne291)) (Or.inl ne291)) (Or.inl ne291)) (Or.inl ne291)) (Or.inl ne291)) (Or.inl ne291)) (Or.inl ne291)) (Or.inl ne291)) (Or.inl ne291)) (Or.inl ne291)) (Or.inl ne291)) (Or.inl ne291)) (Or.inl ne291)) (Or.inl ne291)) (Or.inl ne291)) (Or.inl ne291)) (Or.inl ne291)) (Or.inl ne291)) (Or.inl ne291)) (Or.inl ne291))
  have F295 := (Fld.other W288 (Fld.other W284 (Fld.other W277 (Fld.other W273 (Fld.other W269 (Fld.other W265 (Fld.other W261 (Fld.other W257 (Fld.other W253 (Fld.other W249 (Fld.other W242 (Fld.other W238 (Fld.other W234 (Fld.other W230 (Fld.other W226 (Fld.other W222 (Fld.other W218 (Fld.other W214 (Fld.other W210 (Fld.other W206 (Fld.other W202 (Fld.other W198 (Fld.other W191 (Fld.other W187 (Fld.other W183 (Fld.other W179 (Fld.other W175 (Fld.other W171 (Fld.other W167 (Fld.other W160 (Fld.other W156 (Fld.other W152 (Fld.other W148 (Fld.other W144 (Fld.other W140 (Fld.other W136 (Fld.other W132 (Fld.other W128 (Fld.other W124 (Fld.other W120 (Fld.other W116 (Fld.other W112 (Fld.other W108 (Fld.other W104 (Fld.other W100 (Fld.other W96 (Fld.other W92 (Fld.other W88 (Fld.other W82 (Fld.ext E78 G75_4) (Or.inl ne291)) (Or.inl ne291)) (Or.inl ne291)) (Or.inl ne291)) (Or.inl ne291)) (Or.inl ne291)) (Or.inl ne291)) (Or.inl ne291)) (Or.inl ne291)) (Or.inl ne291)) (Or.inl ne291)) (Or.inl ne291)) (Or.inl ne291)) (Or.inl ne291)) (Or.inl ne291)) (Or.inl ne291)) (Or.inl ne291)) (Or.inl ne291)) (Or.inl ne291)) (Or.inl ne291)) (Or.inl ne291)) (Or.inl ne291)) (Or.inl ne291)) (Or.inl ne291)) (Or.inl ne291)) (Or.inl ne291)) (Or.inl ne291)) (Or.inl ne291)) (Or.inl ne291)) (Or.inl ne291)) (Or.inl ne291)) (Or.inl ne291)) (Or.inl ne291)) (Or.inl ne291)) (Or.inl ne291)) (Or.inl ne291)) (Or.inl ne291)) (Or.inl ne291)) (Or.inl ne291)) (Or.inl ne291)) (Or.inl ne291)) (Or.inl ne291)) (Or.inl ne291)) (Or.inl ne291)) (Or.inl ne291)) (Or.inl ne291)) (Or.inl ne291)) (Or.inl ne291)) (Or.inl ne291))
  have F296 := (Old.wr (Old.wr F279 W284 ge84) W288 ge84)
  have zl297 : n0 ≤ h288.size := by omega
  obtain ⟨cq298, kq298, q298a, q298b, q298c⟩ := isOf hZ e288 F290
  obtain ⟨_, _, ⟨T298, L298, k298, n298⟩, -, X298, hSn298, hgn298, ⟨Lc298, hQ298, l298, y298, z298, cr298⟩, st298⟩ := X288.virtualBackS hx (y := (⟨"com/example/libtardy/libtardy/QueueCounts", "toString", "()Ljava/lang/String;"⟩ : MethodName)) (z := (⟨"com/example/libtardy/libtardy/QueueCounts", "toString", "()Ljava/lang/String;"⟩ : MethodName)) hown (mvT hZ w_17) (mvT hZ w_18) (notFace_of_selects (args := #[]) (mvT hZ w_20)) (mvT hZ w_20) (mvT hZ w_19) (by decide) (backOfSH (W := 0) (rmQTs l Z a0 hw [] b69 (r1_65.toInt64) (r1_66.toInt64) (r1_67.toInt64) (r1_68.toInt64) zc gd ge kd ke h288 n0 zl297 F290 F292 F293 F294 F295 F296 P1 P2 P3 P4 P5 hzc hEL) hZ w_21 w_2 (by decide) (by decide) hEL CH289.1) q298a q298c (g := (mkF m 512 #[.val (.long xw), .second, .val (.long xd), .second, .val (.long xf), .second, .val (.long xx), .second, .val (.long xv), .second, .val (.int xs), .val (.long bw), .second, .val (.long bd), .second, .val (.long bf), .second, .val (.long bx), .second, .val (.ref b14), .val (.ref b23), .val (.int sm), .val (.int (1 : Int32)), .val (.int r1_65), .val (.int r1_66), .val (.int r1_67), .val (.int r1_68), .val (.ref b69), .val (.ref b78), .unset] [(.ref b69)])) rfl (by rw [hml]; rfl) (Steps.refl _) (argsL := []) (rest := []) (lenOf pd__28_29Ljava_2flang_2fString_3b rfl) rfl (by show 2 * 0 + _ ≤ _; exact Nat.le_of_eq rfl) (hb hby at_512) (fun _ _ => ⟨rfl, e288, (by decide : 48 + 22 ≤ _), (by decide : 3065 + 1502 ≤ _)⟩)
  dsimp only [Pt.U, Pt.locs, Pt.cells, Pt.slots] at X298 l298 y298 z298 st298 hQ298 hSn298 hgn298 cr298
  rw [l298, y298, z298] at X298
  have hZ : Z.Warmed39 (s.setVm T298.vm).vm := State.Warmed39.trans (t := s.setVm T54.vm) hZ hSn298.1
  have hown : (s.setVm T298.vm).vm.findClass "com/example/libtardy/libtardy/QueueCountsToStringPinLaw" = some m.cls := by rw [show (s.setVm T298.vm).vm = T298.vm from rfl, hSn298.1.alike.findClass]; exact hown
  have hS : s.Since T298.vm T298.heap.size := foldS (T := T288) hS (by rw [e288]; omega) hSn298 hgn298
  have X298 : Stand p l e _ (s.setVm T298.vm) m _ below meth c T298 _ _ _ := X298
  obtain ⟨b_298, tb_298, kb_298, nn_298, rfl, Nq298, Kp298, G298_0, G298_1, G298_2, G298_3, H298_0, H298_1, H298_2⟩ := hQ298
  have N298 := Fr.app N288 Nq298
  refine own_goT st298 ?_
  have le_298 : h288.size ≤ T298.heap.size := Kp298.1
  have K298 : Keep h0 T298.heap [] := Keep.trans K288 Kp298 all0
  have CH299 := CHr.trans CH289 cr298
  have lt_b_298 : b_298 < T298.heap.size := (G298_0).lt
  have lt_tb_298 : tb_298 < T298.heap.size := (G298_3).lt
  show ∃ t o, Steps p.tables e below (T298.setTop (mkF m 515 #[.val (.long xw), .second, .val (.long xd), .second, .val (.long xf), .second, .val (.long xx), .second, .val (.long xv), .second, .val (.int xs), .val (.long bw), .second, .val (.long bd), .second, .val (.long bf), .second, .val (.long bx), .second, .val (.ref b14), .val (.ref b23), .val (.int sm), .val (.int (1 : Int32)), .val (.int r1_65), .val (.int r1_66), .val (.int r1_67), .val (.int r1_68), .val (.ref b69), .val (.ref b78), .unset] [(.ref b_298)])) t ∧ _
  obtain ⟨T300, h300, X300, e300, E300, A300, D300, -, st300⟩ := newO X298 hx hZ hown (hw _ (List.mem_of_getElem? (i := 209) rfl)) w_43 w_36 rfl (g := (mkF m 515 #[.val (.long xw), .second, .val (.long xd), .second, .val (.long xf), .second, .val (.long xx), .second, .val (.long xv), .second, .val (.int xs), .val (.long bw), .second, .val (.long bd), .second, .val (.long bf), .second, .val (.long bx), .second, .val (.ref b14), .val (.ref b23), .val (.int sm), .val (.int (1 : Int32)), .val (.int r1_65), .val (.int r1_66), .val (.int r1_67), .val (.int r1_68), .val (.ref b69), .val (.ref b78), .unset] [(.ref b_298)])) rfl (hb hby at_515) (by decide) (by decide)
  obtain ⟨b300, g300⟩ : ∃ z, z = T298.heap.size := ⟨_, rfl⟩
  rw [← g300] at A300 D300 st300
  refine own_go st300 ?_
  have le_300 : T298.heap.size ≤ h300.size := E300.1
  have lt_b300 : b300 < h300.size := A300.lt
  have F_value_b300 : Fld Z h300 b300 "java/lang/String" "value" "[B" .null := D300 (Or.inr (hw _ (List.mem_of_getElem? (i := 44) rfl))) (ty := (.array .byte)) (by decide)
  have F_coder_b300 : Fld Z h300 b300 "java/lang/String" "coder" "B" (.int (0 : Int32)) := D300 (Or.inr (hw _ (List.mem_of_getElem? (i := 45) rfl))) (ty := .byte) (by decide)
  have K300 : Keep h0 h300 [] := Keep.ext K298 E300
  have CH301 := CHr.trans CH299 (CHr.ext E300 CH299.1)
  refine own_go (fun _ => XS.dup X300.here hx rfl (hb hby at_518) rfl rfl) ?_
  refine own_go (fun _ => XS.aload X300.here hx rfl (hb hby at_519) rfl rfl) ?_
  show ∃ t o, Steps p.tables e below (T300.setTop (mkF m 521 #[.val (.long xw), .second, .val (.long xd), .second, .val (.long xf), .second, .val (.long xx), .second, .val (.long xv), .second, .val (.int xs), .val (.long bw), .second, .val (.long bd), .second, .val (.long bf), .second, .val (.long bx), .second, .val (.ref b14), .val (.ref b23), .val (.int sm), .val (.int (1 : Int32)), .val (.int r1_65), .val (.int r1_66), .val (.int r1_67), .val (.int r1_68), .val (.ref b69), .val (.ref b78), .unset] [(.ref b78), (.ref b300), (.ref b300), (.ref b_298)])) t ∧ _
  have hws : ∀ d ∈ StrChars.Road.words, d.before a0 Z = true := fun d hd => hw d ((by decide +kernel : ∀ d ∈ StrChars.Road.words, d ∈ tables_1) d hd)
  have hp302 : ∀ c ∈ ([(nar .char (81 : Int32)), (nar .char (117 : Int32)), (nar .char (101 : Int32)), (nar .char (117 : Int32)), (nar .char (101 : Int32)), (nar .char (67 : Int32)), (nar .char (111 : Int32)), (nar .char (117 : Int32)), (nar .char (110 : Int32)), (nar .char (116 : Int32)), (nar .char (115 : Int32)), (nar .char (91 : Int32)), (nar .char (119 : Int32)), (nar .char (97 : Int32)), (nar .char (105 : Int32)), (nar .char (116 : Int32)), (nar .char (105 : Int32)), (nar .char (110 : Int32)), (nar .char (103 : Int32)), (nar .char (61 : Int32)), (nar .char ((48 : Int32) + r1_65)), (nar .char (44 : Int32)), (nar .char (32 : Int32)), (nar .char (100 : Int32)), (nar .char (117 : Int32)), (nar .char (101 : Int32)), (nar .char (61 : Int32)), (nar .char ((48 : Int32) + r1_66)), (nar .char (44 : Int32)), (nar .char (32 : Int32)), (nar .char (105 : Int32)), (nar .char (110 : Int32)), (nar .char (70 : Int32)), (nar .char (108 : Int32)), (nar .char (105 : Int32)), (nar .char (103 : Int32)), (nar .char (104 : Int32)), (nar .char (116 : Int32)), (nar .char (61 : Int32)), (nar .char ((48 : Int32) + r1_67)), (nar .char (44 : Int32)), (nar .char (32 : Int32)), (nar .char (100 : Int32)), (nar .char (101 : Int32)), (nar .char (97 : Int32)), (nar .char (100 : Int32)), (nar .char (61 : Int32)), (nar .char ((48 : Int32) + r1_68)), (nar .char (93 : Int32))] : List Int32), ¬ c < 0 ∧ ¬ (255 : Int32) < c := (own_allS (by decide) (own_allS (by decide) (own_allS (by decide) (own_allS (by decide) (own_allS (by decide) (own_allS (by decide) (own_allS (by decide) (own_allS (by decide) (own_allS (by decide) (own_allS (by decide) (own_allS (by decide) (own_allS (by decide) (own_allS (by decide) (own_allS (by decide) (own_allS (by decide) (own_allS (by decide) (own_allS (by decide) (own_allS (by decide) (own_allS (by decide) (own_allS (by decide) (own_allS (own_chr H65_0) (own_allS (by decide) (own_allS (by decide) (own_allS (by decide) (own_allS (by decide) (own_allS (by decide) (own_allS (by decide) (own_allS (own_chr H66_0) (own_allS (by decide) (own_allS (by decide) (own_allS (by decide) (own_allS (by decide) (own_allS (by decide) (own_allS (by decide) (own_allS (by decide) (own_allS (by decide) (own_allS (by decide) (own_allS (by decide) (own_allS (by decide) (own_allS (own_chr H67_0) (own_allS (by decide) (own_allS (by decide) (own_allS (by decide) (own_allS (by decide) (own_allS (by decide) (own_allS (by decide) (own_allS (by decide) (own_allS (own_chr H68_0) (own_allS (by decide) own_all0)))))))))))))))))))))))))))))))))))))))))))))))))
  have F303 := ((Arv.keep V288 Kp298 nin0).ext E300)
  have F304 := ((Old.keep F296 Kp298 all0).ext E300)
  have zl305 : n0 ≤ h300.size := by omega
  have ge306 : n0 ≤ b300 := by omega
  have sf307 := own_safe_null (EL := own_EL) hZ.alike A300 F_value_b300
  obtain ⟨_, _, ⟨T302, L302, k302, n302⟩, -, X302, ⟨Lc302, hQ302, l302, y302, z302⟩, st302⟩ := X300.specialBack hx (y := (⟨"java/lang/String", "<init>", "([C)V"⟩ : MethodName)) rfl hown (mvT hZ (hw _ (List.mem_of_getElem? (i := 210) rfl))) (mvT hZ (hw _ (List.mem_of_getElem? (i := 211) rfl))) (mvT hZ (hw _ (List.mem_of_getElem? (i := 212) rfl))) (by decide) (StrChars.Road.backV (W := 2) hZ hws (kI := 4) w_43 (cs := ([(nar .char (81 : Int32)), (nar .char (117 : Int32)), (nar .char (101 : Int32)), (nar .char (117 : Int32)), (nar .char (101 : Int32)), (nar .char (67 : Int32)), (nar .char (111 : Int32)), (nar .char (117 : Int32)), (nar .char (110 : Int32)), (nar .char (116 : Int32)), (nar .char (115 : Int32)), (nar .char (91 : Int32)), (nar .char (119 : Int32)), (nar .char (97 : Int32)), (nar .char (105 : Int32)), (nar .char (116 : Int32)), (nar .char (105 : Int32)), (nar .char (110 : Int32)), (nar .char (103 : Int32)), (nar .char (61 : Int32)), (nar .char ((48 : Int32) + r1_65)), (nar .char (44 : Int32)), (nar .char (32 : Int32)), (nar .char (100 : Int32)), (nar .char (117 : Int32)), (nar .char (101 : Int32)), (nar .char (61 : Int32)), (nar .char ((48 : Int32) + r1_66)), (nar .char (44 : Int32)), (nar .char (32 : Int32)), (nar .char (105 : Int32)), (nar .char (110 : Int32)), (nar .char (70 : Int32)), (nar .char (108 : Int32)), (nar .char (105 : Int32)), (nar .char (103 : Int32)), (nar .char (104 : Int32)), (nar .char (116 : Int32)), (nar .char (61 : Int32)), (nar .char ((48 : Int32) + r1_67)), (nar .char (44 : Int32)), (nar .char (32 : Int32)), (nar .char (100 : Int32)), (nar .char (101 : Int32)), (nar .char (97 : Int32)), (nar .char (100 : Int32)), (nar .char (61 : Int32)), (nar .char ((48 : Int32) + r1_68)), (nar .char (93 : Int32))] : List Int32)) (bs := (([(nar .char (81 : Int32)), (nar .char (117 : Int32)), (nar .char (101 : Int32)), (nar .char (117 : Int32)), (nar .char (101 : Int32)), (nar .char (67 : Int32)), (nar .char (111 : Int32)), (nar .char (117 : Int32)), (nar .char (110 : Int32)), (nar .char (116 : Int32)), (nar .char (115 : Int32)), (nar .char (91 : Int32)), (nar .char (119 : Int32)), (nar .char (97 : Int32)), (nar .char (105 : Int32)), (nar .char (116 : Int32)), (nar .char (105 : Int32)), (nar .char (110 : Int32)), (nar .char (103 : Int32)), (nar .char (61 : Int32)), (nar .char ((48 : Int32) + r1_65)), (nar .char (44 : Int32)), (nar .char (32 : Int32)), (nar .char (100 : Int32)), (nar .char (117 : Int32)), (nar .char (101 : Int32)), (nar .char (61 : Int32)), (nar .char ((48 : Int32) + r1_66)), (nar .char (44 : Int32)), (nar .char (32 : Int32)), (nar .char (105 : Int32)), (nar .char (110 : Int32)), (nar .char (70 : Int32)), (nar .char (108 : Int32)), (nar .char (105 : Int32)), (nar .char (103 : Int32)), (nar .char (104 : Int32)), (nar .char (116 : Int32)), (nar .char (61 : Int32)), (nar .char ((48 : Int32) + r1_67)), (nar .char (44 : Int32)), (nar .char (32 : Int32)), (nar .char (100 : Int32)), (nar .char (101 : Int32)), (nar .char (97 : Int32)), (nar .char (100 : Int32)), (nar .char (61 : Int32)), (nar .char ((48 : Int32) + r1_68)), (nar .char (93 : Int32))] : List Int32)).map (fun c => c.toInt8.toInt32)) (n := 49) ge306 zl305 A300 F_value_b300 F_coder_b300 F303 (Sta.ext F304.2 P1) hzc rfl rfl (by decide) (by decide) hp302 rfl (by decide) (by decide)) (g := (mkF m 521 #[.val (.long xw), .second, .val (.long xd), .second, .val (.long xf), .second, .val (.long xx), .second, .val (.long xv), .second, .val (.int xs), .val (.long bw), .second, .val (.long bd), .second, .val (.long bf), .second, .val (.long bx), .second, .val (.ref b14), .val (.ref b23), .val (.int sm), .val (.int (1 : Int32)), .val (.int r1_65), .val (.int r1_66), .val (.int r1_67), .val (.int r1_68), .val (.ref b69), .val (.ref b78), .unset] [(.ref b78), (.ref b300), (.ref b300), (.ref b_298)])) rfl (by rw [hml]; rfl) (Steps.refl _) (a := b300) (argsL := [(.ref b78)]) (rest := [(.ref b300), (.ref b_298)]) (lenOf pd__28_5bC_29V rfl) rfl (by show 2 * 0 + _ ≤ _; exact Nat.le_of_eq rfl) (hb hby at_521) (fun _ _ => ⟨rfl, e300, (by decide : 71 + 1 ≤ _), (by decide : 4571 + 49 ≤ _)⟩)
  dsimp only [Pt.U, Pt.locs, Pt.cells, Pt.slots] at X302 l302 y302 z302 st302 hQ302
  rw [l302, y302, z302] at X302
  obtain ⟨rfl, Nq302, Kp302, G302_0, G302_1, t302, kb302, u302_1, u302_2, u302_3, G302_2, G302_3⟩ := hQ302
  have N302 := Fr.app N298 Nq302
  refine own_goT st302 ?_
  have le_302 : h300.size ≤ T302.heap.size := Kp302.1
  have sz308 : h0.size ≤ b300 := by omega
  have K302 : Keep h0 T302.heap [] := Keep.trans K300 Kp302 (allS (Or.inr sz308) all0)
  have CH309 := CHr.trans CH301 (CHr.keep Kp302 (allS sf307 all0) CH301.1)
  have G302_4 : Arv Z T302.heap t302 kb302 .byte (49 : Int32) [(.int ((nar .char (81 : Int32)).toInt8.toInt32)), (.int ((nar .char (117 : Int32)).toInt8.toInt32)), (.int ((nar .char (101 : Int32)).toInt8.toInt32)), (.int ((nar .char (117 : Int32)).toInt8.toInt32)), (.int ((nar .char (101 : Int32)).toInt8.toInt32)), (.int ((nar .char (67 : Int32)).toInt8.toInt32)), (.int ((nar .char (111 : Int32)).toInt8.toInt32)), (.int ((nar .char (117 : Int32)).toInt8.toInt32)), (.int ((nar .char (110 : Int32)).toInt8.toInt32)), (.int ((nar .char (116 : Int32)).toInt8.toInt32)), (.int ((nar .char (115 : Int32)).toInt8.toInt32)), (.int ((nar .char (91 : Int32)).toInt8.toInt32)), (.int ((nar .char (119 : Int32)).toInt8.toInt32)), (.int ((nar .char (97 : Int32)).toInt8.toInt32)), (.int ((nar .char (105 : Int32)).toInt8.toInt32)), (.int ((nar .char (116 : Int32)).toInt8.toInt32)), (.int ((nar .char (105 : Int32)).toInt8.toInt32)), (.int ((nar .char (110 : Int32)).toInt8.toInt32)), (.int ((nar .char (103 : Int32)).toInt8.toInt32)), (.int ((nar .char (61 : Int32)).toInt8.toInt32)), (.int ((nar .char ((48 : Int32) + r1_65)).toInt8.toInt32)), (.int ((nar .char (44 : Int32)).toInt8.toInt32)), (.int ((nar .char (32 : Int32)).toInt8.toInt32)), (.int ((nar .char (100 : Int32)).toInt8.toInt32)), (.int ((nar .char (117 : Int32)).toInt8.toInt32)), (.int ((nar .char (101 : Int32)).toInt8.toInt32)), (.int ((nar .char (61 : Int32)).toInt8.toInt32)), (.int ((nar .char ((48 : Int32) + r1_66)).toInt8.toInt32)), (.int ((nar .char (44 : Int32)).toInt8.toInt32)), (.int ((nar .char (32 : Int32)).toInt8.toInt32)), (.int ((nar .char (105 : Int32)).toInt8.toInt32)), (.int ((nar .char (110 : Int32)).toInt8.toInt32)), (.int ((nar .char (70 : Int32)).toInt8.toInt32)), (.int ((nar .char (108 : Int32)).toInt8.toInt32)), (.int ((nar .char (105 : Int32)).toInt8.toInt32)), (.int ((nar .char (103 : Int32)).toInt8.toInt32)), (.int ((nar .char (104 : Int32)).toInt8.toInt32)), (.int ((nar .char (116 : Int32)).toInt8.toInt32)), (.int ((nar .char (61 : Int32)).toInt8.toInt32)), (.int ((nar .char ((48 : Int32) + r1_67)).toInt8.toInt32)), (.int ((nar .char (44 : Int32)).toInt8.toInt32)), (.int ((nar .char (32 : Int32)).toInt8.toInt32)), (.int ((nar .char (100 : Int32)).toInt8.toInt32)), (.int ((nar .char (101 : Int32)).toInt8.toInt32)), (.int ((nar .char (97 : Int32)).toInt8.toInt32)), (.int ((nar .char (100 : Int32)).toInt8.toInt32)), (.int ((nar .char (61 : Int32)).toInt8.toInt32)), (.int ((nar .char ((48 : Int32) + r1_68)).toInt8.toInt32)), (.int ((nar .char (93 : Int32)).toInt8.toInt32))] (.int (0 : Int32)) := G302_3
  have lt_t302 : (t302 : Nat) < T302.heap.size := G302_3.lt
  show ∃ t o, Steps p.tables e below (T302.setTop (mkF m 524 #[.val (.long xw), .second, .val (.long xd), .second, .val (.long xf), .second, .val (.long xx), .second, .val (.long xv), .second, .val (.int xs), .val (.long bw), .second, .val (.long bd), .second, .val (.long bf), .second, .val (.long bx), .second, .val (.ref b14), .val (.ref b23), .val (.int sm), .val (.int (1 : Int32)), .val (.int r1_65), .val (.int r1_66), .val (.int r1_67), .val (.int r1_68), .val (.ref b69), .val (.ref b78), .unset] [(.ref b300), (.ref b_298)])) t ∧ _
  have F310 := (Exa.keep (Exa.ext E300 G298_0) Kp302)
  have ne311 : b_298 ≠ b300 := own_ne (by omega)
  have F312 := (Fld.keep (Fld.ext E300 G298_1) Kp302 (ninS ne311 nin0))
  have F313 := (Fld.keep (Fld.ext E300 G298_2) Kp302 (ninS ne311 nin0))
  have ne314 : tb_298 ≠ b300 := own_ne (by omega)
  have F315 := (Arv.keep (G298_3.ext E300) Kp302 (ninS ne314 nin0))
  have F316 := (Old.keep F304 Kp302 (allS ge306 all0))
  have zl317 : n0 ≤ T302.heap.size := by omega
  obtain ⟨cq318, kq318, q318a, q318b, q318c⟩ := isOf hZ rfl F310
  obtain ⟨_, _, ⟨T318, L318, k318, n318⟩, -, X318, ⟨Lc318, hQ318, l318, y318, z318⟩, st318⟩ := X302.virtualBack hx (y := (⟨"java/lang/String", "equals", "(Ljava/lang/Object;)Z"⟩ : MethodName)) (z := (⟨"java/lang/String", "equals", "(Ljava/lang/Object;)Z"⟩ : MethodName)) hown (mvT hZ w_190) (mvT hZ w_191) (notFace_of_selects (args := #[]) (mvT hZ w_193)) (mvT hZ w_193) (mvT hZ w_192) (by decide) (backOf (W := 0) (rmEqG l Z a0 hw [] b_298 b300 tb_298 kb_298 nn_298 ((own_qc (r1_65.toInt64) (r1_66.toInt64) (r1_67.toInt64) (r1_68.toInt64))) t302 kb302 (49 : Int32) ([(.int ((nar .char (81 : Int32)).toInt8.toInt32)), (.int ((nar .char (117 : Int32)).toInt8.toInt32)), (.int ((nar .char (101 : Int32)).toInt8.toInt32)), (.int ((nar .char (117 : Int32)).toInt8.toInt32)), (.int ((nar .char (101 : Int32)).toInt8.toInt32)), (.int ((nar .char (67 : Int32)).toInt8.toInt32)), (.int ((nar .char (111 : Int32)).toInt8.toInt32)), (.int ((nar .char (117 : Int32)).toInt8.toInt32)), (.int ((nar .char (110 : Int32)).toInt8.toInt32)), (.int ((nar .char (116 : Int32)).toInt8.toInt32)), (.int ((nar .char (115 : Int32)).toInt8.toInt32)), (.int ((nar .char (91 : Int32)).toInt8.toInt32)), (.int ((nar .char (119 : Int32)).toInt8.toInt32)), (.int ((nar .char (97 : Int32)).toInt8.toInt32)), (.int ((nar .char (105 : Int32)).toInt8.toInt32)), (.int ((nar .char (116 : Int32)).toInt8.toInt32)), (.int ((nar .char (105 : Int32)).toInt8.toInt32)), (.int ((nar .char (110 : Int32)).toInt8.toInt32)), (.int ((nar .char (103 : Int32)).toInt8.toInt32)), (.int ((nar .char (61 : Int32)).toInt8.toInt32)), (.int ((nar .char ((48 : Int32) + r1_65)).toInt8.toInt32)), (.int ((nar .char (44 : Int32)).toInt8.toInt32)), (.int ((nar .char (32 : Int32)).toInt8.toInt32)), (.int ((nar .char (100 : Int32)).toInt8.toInt32)), (.int ((nar .char (117 : Int32)).toInt8.toInt32)), (.int ((nar .char (101 : Int32)).toInt8.toInt32)), (.int ((nar .char (61 : Int32)).toInt8.toInt32)), (.int ((nar .char ((48 : Int32) + r1_66)).toInt8.toInt32)), (.int ((nar .char (44 : Int32)).toInt8.toInt32)), (.int ((nar .char (32 : Int32)).toInt8.toInt32)), (.int ((nar .char (105 : Int32)).toInt8.toInt32)), (.int ((nar .char (110 : Int32)).toInt8.toInt32)), (.int ((nar .char (70 : Int32)).toInt8.toInt32)), (.int ((nar .char (108 : Int32)).toInt8.toInt32)), (.int ((nar .char (105 : Int32)).toInt8.toInt32)), (.int ((nar .char (103 : Int32)).toInt8.toInt32)), (.int ((nar .char (104 : Int32)).toInt8.toInt32)), (.int ((nar .char (116 : Int32)).toInt8.toInt32)), (.int ((nar .char (61 : Int32)).toInt8.toInt32)), (.int ((nar .char ((48 : Int32) + r1_67)).toInt8.toInt32)), (.int ((nar .char (44 : Int32)).toInt8.toInt32)), (.int ((nar .char (32 : Int32)).toInt8.toInt32)), (.int ((nar .char (100 : Int32)).toInt8.toInt32)), (.int ((nar .char (101 : Int32)).toInt8.toInt32)), (.int ((nar .char (97 : Int32)).toInt8.toInt32)), (.int ((nar .char (100 : Int32)).toInt8.toInt32)), (.int ((nar .char (61 : Int32)).toInt8.toInt32)), (.int ((nar .char ((48 : Int32) + r1_68)).toInt8.toInt32)), (.int ((nar .char (93 : Int32)).toInt8.toInt32))]) zc T302.heap n0 zl317 F310 F312 F313 F315 G302_0 G302_2 G302_1 G302_4 F316 P1 hzc (H298_0 : own_fit (own_qc (r1_65.toInt64) (r1_66.toInt64) (r1_67.toInt64) (r1_68.toInt64)) nn_298) (rfl : own_fit [(.int ((nar .char (81 : Int32)).toInt8.toInt32)), (.int ((nar .char (117 : Int32)).toInt8.toInt32)), (.int ((nar .char (101 : Int32)).toInt8.toInt32)), (.int ((nar .char (117 : Int32)).toInt8.toInt32)), (.int ((nar .char (101 : Int32)).toInt8.toInt32)), (.int ((nar .char (67 : Int32)).toInt8.toInt32)), (.int ((nar .char (111 : Int32)).toInt8.toInt32)), (.int ((nar .char (117 : Int32)).toInt8.toInt32)), (.int ((nar .char (110 : Int32)).toInt8.toInt32)), (.int ((nar .char (116 : Int32)).toInt8.toInt32)), (.int ((nar .char (115 : Int32)).toInt8.toInt32)), (.int ((nar .char (91 : Int32)).toInt8.toInt32)), (.int ((nar .char (119 : Int32)).toInt8.toInt32)), (.int ((nar .char (97 : Int32)).toInt8.toInt32)), (.int ((nar .char (105 : Int32)).toInt8.toInt32)), (.int ((nar .char (116 : Int32)).toInt8.toInt32)), (.int ((nar .char (105 : Int32)).toInt8.toInt32)), (.int ((nar .char (110 : Int32)).toInt8.toInt32)), (.int ((nar .char (103 : Int32)).toInt8.toInt32)), (.int ((nar .char (61 : Int32)).toInt8.toInt32)), (.int ((nar .char ((48 : Int32) + r1_65)).toInt8.toInt32)), (.int ((nar .char (44 : Int32)).toInt8.toInt32)), (.int ((nar .char (32 : Int32)).toInt8.toInt32)), (.int ((nar .char (100 : Int32)).toInt8.toInt32)), (.int ((nar .char (117 : Int32)).toInt8.toInt32)), (.int ((nar .char (101 : Int32)).toInt8.toInt32)), (.int ((nar .char (61 : Int32)).toInt8.toInt32)), (.int ((nar .char ((48 : Int32) + r1_66)).toInt8.toInt32)), (.int ((nar .char (44 : Int32)).toInt8.toInt32)), (.int ((nar .char (32 : Int32)).toInt8.toInt32)), (.int ((nar .char (105 : Int32)).toInt8.toInt32)), (.int ((nar .char (110 : Int32)).toInt8.toInt32)), (.int ((nar .char (70 : Int32)).toInt8.toInt32)), (.int ((nar .char (108 : Int32)).toInt8.toInt32)), (.int ((nar .char (105 : Int32)).toInt8.toInt32)), (.int ((nar .char (103 : Int32)).toInt8.toInt32)), (.int ((nar .char (104 : Int32)).toInt8.toInt32)), (.int ((nar .char (116 : Int32)).toInt8.toInt32)), (.int ((nar .char (61 : Int32)).toInt8.toInt32)), (.int ((nar .char ((48 : Int32) + r1_67)).toInt8.toInt32)), (.int ((nar .char (44 : Int32)).toInt8.toInt32)), (.int ((nar .char (32 : Int32)).toInt8.toInt32)), (.int ((nar .char (100 : Int32)).toInt8.toInt32)), (.int ((nar .char (101 : Int32)).toInt8.toInt32)), (.int ((nar .char (97 : Int32)).toInt8.toInt32)), (.int ((nar .char (100 : Int32)).toInt8.toInt32)), (.int ((nar .char (61 : Int32)).toInt8.toInt32)), (.int ((nar .char ((48 : Int32) + r1_68)).toInt8.toInt32)), (.int ((nar .char (93 : Int32)).toInt8.toInt32))] (49 : Int32)) ne311) hZ w_194 w_36 (by decide) (by decide)) q318a q318c (g := (mkF m 524 #[.val (.long xw), .second, .val (.long xd), .second, .val (.long xf), .second, .val (.long xx), .second, .val (.long xv), .second, .val (.int xs), .val (.long bw), .second, .val (.long bd), .second, .val (.long bf), .second, .val (.long bx), .second, .val (.ref b14), .val (.ref b23), .val (.int sm), .val (.int (1 : Int32)), .val (.int r1_65), .val (.int r1_66), .val (.int r1_67), .val (.int r1_68), .val (.ref b69), .val (.ref b78), .unset] [(.ref b300), (.ref b_298)])) rfl (by rw [hml]; rfl) (Steps.refl _) (argsL := [(.ref b300)]) (rest := []) (lenOf pd__28Ljava_2flang_2fObject_3b_29Z rfl) rfl (by show 2 * 0 + _ ≤ _; exact Nat.le_of_eq rfl) (hb hby at_524) (fun _ _ => ⟨rfl, rfl, (by decide : 72 + 0 ≤ _), (by decide : 4620 + 0 ≤ _)⟩)
  dsimp only [Pt.U, Pt.locs, Pt.cells, Pt.slots] at X318 l318 y318 z318 st318 hQ318
  rw [l318, y318, z318] at X318
  obtain ⟨r1_318, rfl, Nq318, e318, H318_0⟩ := hQ318
  have N318 := Fr.app N302 Nq318
  refine own_goT st318 ?_
  show ∃ t o, Steps p.tables e below (T318.setTop (mkF m 527 #[.val (.long xw), .second, .val (.long xd), .second, .val (.long xf), .second, .val (.long xx), .second, .val (.long xv), .second, .val (.int xs), .val (.long bw), .second, .val (.long bd), .second, .val (.long bf), .second, .val (.long bx), .second, .val (.ref b14), .val (.ref b23), .val (.int sm), .val (.int (1 : Int32)), .val (.int r1_65), .val (.int r1_66), .val (.int r1_67), .val (.int r1_68), .val (.ref b69), .val (.ref b78), .unset] [(.int r1_318)])) t ∧ _
  have hr2 : r1_318 = (1 : Int32) := by
    rcases H318_0 with ⟨q, z⟩ | ⟨q, z⟩
    · exact q
    · exact absurd (by unfold own_qc; rw [own_dch H65_0, own_dch H66_0, own_dch H67_0, own_dch H68_0]; rfl) z
  rw [hr2]
  show ∃ t o, Steps p.tables e below (T318.setTop (mkF m 527 #[.val (.long xw), .second, .val (.long xd), .second, .val (.long xf), .second, .val (.long xx), .second, .val (.long xv), .second, .val (.int xs), .val (.long bw), .second, .val (.long bd), .second, .val (.long bf), .second, .val (.long bx), .second, .val (.ref b14), .val (.ref b23), .val (.int sm), .val (.int (1 : Int32)), .val (.int r1_65), .val (.int r1_66), .val (.int r1_67), .val (.int r1_68), .val (.ref b69), .val (.ref b78), .unset] [(.int (1 : Int32))])) t ∧ _
  refine own_go (fun _ => XS.istore X318.here hx rfl (hb hby at_527) rfl (l' := #[.val (.long xw), .second, .val (.long xd), .second, .val (.long xf), .second, .val (.long xx), .second, .val (.long xv), .second, .val (.int xs), .val (.long bw), .second, .val (.long bd), .second, .val (.long bf), .second, .val (.long bx), .second, .val (.ref b14), .val (.ref b23), .val (.int sm), .val (.int (1 : Int32)), .val (.int r1_65), .val (.int r1_66), .val (.int r1_67), .val (.int r1_68), .val (.ref b69), .val (.ref b78), .val (.int (1 : Int32))]) rfl) ?_
  refine own_go (fun _ => XS.iload X318.here hx rfl (hb hby at_529) rfl) ?_
  show ∃ t o, Steps p.tables e below (T318.setTop (mkF m 531 #[.val (.long xw), .second, .val (.long xd), .second, .val (.long xf), .second, .val (.long xx), .second, .val (.long xv), .second, .val (.int xs), .val (.long bw), .second, .val (.long bd), .second, .val (.long bf), .second, .val (.long bx), .second, .val (.ref b14), .val (.ref b23), .val (.int sm), .val (.int (1 : Int32)), .val (.int r1_65), .val (.int r1_66), .val (.int r1_67), .val (.int r1_68), .val (.ref b69), .val (.ref b78), .val (.int (1 : Int32))] [(.int (1 : Int32))])) t ∧ _
  refine own_go (fun _ => XS.ifNo X318.here hx rfl (hb hby at_531) rfl ((if0 _ _).trans (feq (by decide : ¬ ((1 : Int32) = (0 : Int32)))).1)) ?_
  refine own_go (fun _ => XS.iload X318.here hx rfl (hb hby at_534) rfl) ?_
  show ∃ t o, Steps p.tables e below (T318.setTop (mkF m 536 #[.val (.long xw), .second, .val (.long xd), .second, .val (.long xf), .second, .val (.long xx), .second, .val (.long xv), .second, .val (.int xs), .val (.long bw), .second, .val (.long bd), .second, .val (.long bf), .second, .val (.long bx), .second, .val (.ref b14), .val (.ref b23), .val (.int sm), .val (.int (1 : Int32)), .val (.int r1_65), .val (.int r1_66), .val (.int r1_67), .val (.int r1_68), .val (.ref b69), .val (.ref b78), .val (.int (1 : Int32))] [(.int (1 : Int32))])) t ∧ _
  refine own_go (fun _ => XS.ifNo X318.here hx rfl (hb hby at_536) rfl ((if0 _ _).trans (feq (by decide : ¬ ((1 : Int32) = (0 : Int32)))).1)) ?_
  refine own_go (fun _ => XS.iconst X318.here hx rfl (hb hby at_539)) ?_
  refine own_go (fun _ => XS.goto X318.here hx rfl (pc0 := 540) (pc' := 544) rfl (hb hby at_540) (by decide) (by decide)) ?_
  show ∃ t o, Steps p.tables e below (T318.setTop (mkF m 544 #[.val (.long xw), .second, .val (.long xd), .second, .val (.long xf), .second, .val (.long xx), .second, .val (.long xv), .second, .val (.int xs), .val (.long bw), .second, .val (.long bd), .second, .val (.long bf), .second, .val (.long bx), .second, .val (.ref b14), .val (.ref b23), .val (.int sm), .val (.int (1 : Int32)), .val (.int r1_65), .val (.int r1_66), .val (.int r1_67), .val (.int r1_68), .val (.ref b69), .val (.ref b78), .val (.int (1 : Int32))] [(.int (1 : Int32))])) t ∧ _
  obtain ⟨fs, hr, hrun, hended, hW⟩ := Jvm.Stand.leaveW X318 hS (by rw [e318]; omega) (v := some (.int (1 : Int32))) (fun h => by rw [Bd.returns] at h; cases h)
  have CHz : CHr Z own_EL s.vm s.heap T318.vm T318.heap := by rw [hh, e318]; exact CHr.trans CH309 (CHv.at X318 hZ hEL CH309.1)
  refine ⟨_, _, ?_, hrun, hended, _, _, rfl, ?_, CHz, ⟨hW.1, hW.2.1, hW.2.2.1, hW.2.2.2.mono (by decide) (by decide)⟩⟩
  · exact retN X318 hx (t := .boolean) Bd.returns (by simp) (hb hby at_544) hr
  · show Q_rm0 Z _ _ _ _ _ _ _ _ _ _ _ h0 n0 _ T318.heap _
    rw [e318]
    exact ⟨rfl, N318, K302⟩
set_option maxRecDepth 65536 in
set_option maxHeartbeats 40000000 in
theorem comes_1 {Post : Tables → Env → Array Value → State → Outcome → State → Prop} (hpost : ∀ tb e args s v u, (limb_1_1.after args s (.returned v) u = true ∧ limb_1_2.after args s (.returned v) u = true ∧ True) → ReturnedEndW s (.returned v) u (Jvm.fieldLocs frame_1_writes args s ++ Jvm.arrayLocs frame_1_arrays args s ++ Jvm.staticLocs frame_1_statics s) 72 7424 → Post tb e args s (.returned v) u) :
    ArmFor flags0 classFile x code maxLocals ret World_1 tables_1 room_1 Calls_1 rest_1 Pre_1 Post := by
  intro l hfl _ _ p e ha hc hk s m args below hf hA hF happ hP
  obtain ⟨hcalls, hrest, hpre⟩ := hP
  obtain ⟨-, -, -, hnamed, -, -, -, hat⟩ := (Spec.applies_iff hf).mp happ
  obtain ⟨hg, hn⟩ := and_e (Cond.before_iff.mp (show (Jvm.Cond.and given_1 narrow_1).before args s = true from hpre))
  obtain ⟨g1, g2⟩ := and_e hg
  obtain ⟨g3, g4⟩ := and_e g2
  obtain ⟨g5, g6⟩ := and_e g4
  obtain ⟨g7, g8⟩ := and_e g6
  obtain ⟨g9, g10⟩ := and_e g8
  obtain ⟨g11, g12⟩ := and_e g10
  obtain ⟨w0, w1, w2, w3, w4, w5, rfl⟩ : ∃ w0 w1 w2 w3 w4 w5 : Value, args = #[w0, w1, w2, w3, w4, w5] := by
    have hs : args.size = 6 := by simpa [Cond.value, given_1] using g1
    obtain ⟨L⟩ := args
    match L, hs with
    | [w0, w1, w2, w3, w4, w5], _ => exact ⟨w0, w1, w2, w3, w4, w5, rfl⟩
  have hw := fun d (hd : d ∈ tables_1) => atoms_spec (ws := Jvm.Cond.code x code maxLocals ret :: tables_1) hat d (List.mem_cons_of_mem _ hd)
  have hfit : Fit s := fun {y c} hc i hi => by
    obtain ⟨ha, rfl⟩ := Array.getElem?_eq_some_iff.mp hc
    have q := List.all_eq_true.mp ((Array.all_eq_true_iff_forall_mem.mp hF) _ (Array.getElem_mem ha)) i (List.mem_range.mpr hi)
    simpa [Array.getElem?_eq_getElem hi] using q
  obtain ⟨hsets, hown0⟩ := atoms_of _ (rest_1_c_eq ▸ (show rest_1_c.before _ s = true from hrest))
  have hr0 := Cond.before_iff.mp hown0
  obtain ⟨i0, ei0⟩ := isL_v g3
  obtain rfl : w0 = (.long i0) := Option.some.inj ei0
  obtain ⟨i1, ei1⟩ := isL_v g5
  obtain rfl : w1 = (.long i1) := Option.some.inj ei1
  obtain ⟨i2, ei2⟩ := isL_v g7
  obtain rfl : w2 = (.long i2) := Option.some.inj ei2
  obtain ⟨i3, ei3⟩ := isL_v g9
  obtain rfl : w3 = (.long i3) := Option.some.inj ei3
  obtain ⟨i4, ei4⟩ := isL_v g11
  obtain rfl : w4 = (.long i4) := Option.some.inj ei4
  obtain ⟨i5, ei5⟩ := is_v g12
  obtain rfl : w5 = (.int i5) := Option.some.inj ei5
  have CI : (Jvm.Cond.isInt (Jvm.Term.static "java/lang/String" "COMPACT_STRINGS" "Z")).value _ s none s [] = some true := Cond.before_iff.mp (hsets _ (List.mem_of_getElem? (i := 1) rfl))
  obtain ⟨zc, evc⟩ := is_v CI
  have SCS : Sta s s.heap "java/lang/String" "COMPACT_STRINGS" "Z" (.int zc) := Sta.start evc (Or.inl (hsets _ (List.mem_of_getElem? (i := 0) rfl)))
  have hzc : ¬ (zc = (0 : Int32)) := gotF (Cond.eq_ints evc (Term.int_eval (0 : Int32))) (not_v (Cond.before_iff.mp (hsets _ (List.mem_of_getElem? (i := 2) rfl))))
  obtain ⟨gd, kgd, evgd, ARgd⟩ := Jvm.Free.SBG.own_tbl (F := fun r => 48 + r % 10) (hsets _ (List.mem_of_getElem? (i := 12) rfl)) (hsets _ (List.mem_of_getElem? (i := 13) rfl)) (hsets _ (List.mem_of_getElem? (i := 14) rfl)) (hw _ (List.mem_of_getElem? (i := 37) rfl)) (fun r hr => by rw [← Jvm.Free.SBG.ones_num r hr]; rfl) Jvm.Free.SBG.own_fit48
  have STgd : Sta s s.heap "java/lang/Integer" "DigitOnes" "[B" (.ref gd) := Sta.start evgd (Or.inl (hsets _ (List.mem_of_getElem? (i := 11) rfl)))
  obtain ⟨ge, kge, evge, ARge⟩ := Jvm.Free.SBG.own_tbl (F := fun r => 48 + r / 10) (hsets _ (List.mem_of_getElem? (i := 17) rfl)) (hsets _ (List.mem_of_getElem? (i := 18) rfl)) (hsets _ (List.mem_of_getElem? (i := 19) rfl)) (hw _ (List.mem_of_getElem? (i := 37) rfl)) (fun r hr => by rw [← Jvm.Free.SBG.tens_num r hr]; rfl) Jvm.Free.SBG.own_fit48t
  have STge : Sta s s.heap "java/lang/Integer" "DigitTens" "[B" (.ref ge) := Sta.start evge (Or.inl (hsets _ (List.mem_of_getElem? (i := 16) rfl)))
  have hEL : EW s _ own_EL := (EW.cons (own := "com/example/libtardy/libtardy/QueueCounts") (index := 37) (text := "QueueCounts[waiting=") (hw _ (List.mem_of_getElem? (i := 42) rfl)) (by decide) (EW.cons (own := "com/example/libtardy/libtardy/QueueCounts") (index := 46) (text := ", due=") (hw _ (List.mem_of_getElem? (i := 146) rfl)) (by decide) (EW.cons (own := "com/example/libtardy/libtardy/QueueCounts") (index := 48) (text := ", inFlight=") (hw _ (List.mem_of_getElem? (i := 147) rfl)) (by decide) (EW.cons (own := "com/example/libtardy/libtardy/QueueCounts") (index := 50) (text := ", dead=") (hw _ (List.mem_of_getElem? (i := 151) rfl)) (by decide) (EW.cons (own := "com/example/libtardy/libtardy/QueueCounts") (index := 52) (text := "]") (hw _ (List.mem_of_getElem? (i := 152) rfl)) (by decide) EW.nil)))))
  have hCH0 : CHv s own_EL s.vm s.heap := CHv.start hEL (fun p hp => hcalls.1 p hp) (hsets _ (List.mem_of_getElem? (i := 2) rfl)) (hw _ (List.mem_of_getElem? (i := 37) rfl)) (hw _ (List.mem_of_getElem? (i := 43) rfl))
  have OLD := Old.start s
  obtain ⟨n, o, h1, h2, h3, _, L, rfl, ⟨rfl, N, -⟩, -, hq⟩ := rm0 l s _ hw tables_1 i0 i1 i2 i3 i4 i5 zc gd ge kgd kge s.heap s.heap.size (Nat.le_refl _) OLD SCS STgd STge ARgd ARge hzc hEL p e ha hc hk s m _ below hf ((Spec.applies_iff_loose hf).mp happ).1 ⟨rfl, State.Warmed39.refl s, rfl, hCH0⟩ trivial
  refine ⟨n, _, h1, h2, h3, hpost _ _ _ _ _ _ ⟨Cond.after_iff.mpr rfl, Cond.after_iff.mpr (eq_i res_at (Term.int_eval (1)) rfl), trivial⟩ ⟨hq.1, hq.2.1, hq.2.2.1, (hq.2.2.2.sift fun y hy => Or.inr (N y hy)).mono (by decide) (by decide)⟩⟩
theorem main_1_1 : Claimed_1_1 := comes_1 fun _ _ _ _ _ _ h hF => ⟨h.1, hF⟩
theorem main_1_2 : Claimed_1_2 := comes_1 fun _ _ _ _ _ _ h hF => ⟨h.2.1, hF⟩
end Jvm.Pilot.@@N@@
namespace Jvm.Pilot.@@N@@
open Jvm Jvm.ClassFile Sem Op Lib Jvm.Free Jvm.Stand Jvm.Pilot.@@N@@.Jvm.D
/-! MADE BY PROGRAM (witnessworld.py) out of the Statement's table words and the real class files: 29 classes; the members and pool entries that the words name. The judged class is class 1, her method 3. -/
namespace start1
open Jvm.ClassFile
def u (s : String) : CpInfo := .utf8 (stringToUtf16 s)
/-- a pool by its gaps: so many unusable entries, then the entry; so many at the end -/
def gap : Nat → List CpInfo → List CpInfo
  | 0, r => r
  | n + 1, r => .unusable :: gap n r
def poolList (es : List (Nat × CpInfo)) (last : Nat) : List CpInfo := es.foldr (fun e r => gap e.1 (e.2 :: r)) (gap last [])
def pool (es : List (Nat × CpInfo)) (last : Nat) : Array CpInfo := ⟨poolList es last⟩
def fileOf (pool : Array CpInfo) (this : Nat) (attrs : Array Attribute := #[]) (ms : Array MethodInfo := #[]) (fl : Nat := 33) (sup : Nat := 0) (ifs : Array Nat := #[]) (fds : Array FieldInfo := #[]) : ClassFile where
  minorVersion := 0
  majorVersion := 65
  constantPool := pool
  accessFlags := fl
  thisClass := this
  superClass := sup
  interfaces := ifs
  fields := fds
  methods := ms
  attributes := attrs
def plain (name : String) (sup : Option ClassId) : Class where
  name := name
  kind := .ordinary
  loader := none
  accessFlags := 33
  super := sup
  interfaces := #[]
  cf := none
  fields := #[]
  methods := #[]
  instanceTypes := #[]
  staticTypes := #[]
  resolved := #[]
  callSites := []
  init := .initialized
  statics := none
  mirror := none

def pool0 : Array CpInfo := pool [(5, u "<init>"), (0, u "()V"), (1, .class_ 10), (1, u "java/lang/Object"), (85, u "clone"), (0, u "()Ljava/lang/Object;")] 26

def k0c0 : Code := { maxStack := 0, maxLocals := 1, code := object_method_1_code, exceptionTable := #[], attributes := #[] }
def k0m0 : Method := { name := "<init>", desc := "()V", sig := { parameters := [], returnType := none }, accessFlags := 1, code := some k0c0 }
def k0m1 : Method := { name := "clone", desc := "()Ljava/lang/Object;", sig := { parameters := [], returnType := some (.object "java/lang/Object") }, accessFlags := 260, code := none }
/-- java/lang/Object -/
def k0 : Class := { plain "java/lang/Object" none with
  accessFlags := 33
  interfaces := #[]
  cf := some (fileOf pool0 8 #[] #[{ accessFlags := 1, nameIndex := 5, descriptorIndex := 6, attributes := #[] }, { accessFlags := 260, nameIndex := 96, descriptorIndex := 97, attributes := #[] }] 33 0 #[] #[])
  fields := #[]
  methods := #[k0m0, k0m1]
  instanceTypes := #[]
  staticTypes := #[]
  resolved := Array.replicate 124 none
  statics := none }

def pool1 : Array CpInfo := pool [(2, .class_ 4), (1, u "java/lang/Object"), (0, u "<init>"), (0, u "()V"), (0, .long 10), (1, .class_ 10), (0, u "com/example/libtardy/libtardy/QueueCounts"), (0, .methodref 9 12), (0, .nameAndType 5 13), (0, u "(JJJJ)V"), (0, .methodref 9 15), (0, .nameAndType 16 17), (0, u "toString"), (0, u "()Ljava/lang/String;"), (0, .methodref 19 20), (0, .class_ 21), (0, .nameAndType 22 23), (0, u "java/lang/String"), (0, u "equals"), (0, u "(Ljava/lang/Object;)Z"), (0, .methodref 25 26), (0, .class_ 27), (0, .nameAndType 28 29), (0, u "com/example/libtardy/libtardy/QueueCountsToStringPinLaw"), (0, u "digit"), (0, u "(J)I"), (0, .methodref 25 31), (0, .nameAndType 32 33), (0, u "ch"), (0, u "(I)C"), (0, .methodref 19 35), (0, .nameAndType 5 36), (0, u "([C)V"), (2, u "law"), (0, u "(JJJJJI)Z")] 5

def k1m0 : Method := { name := "<init>", desc := "()V", sig := { parameters := [], returnType := none }, accessFlags := 1, code := none }
def k1c1 : Code := { maxStack := 4, maxLocals := 2, code := method_2_code, exceptionTable := #[], attributes := #[] }
def k1m1 : Method := { name := "digit", desc := "(J)I", sig := { parameters := [.long], returnType := some .int }, accessFlags := 10, code := some k1c1 }
def k1c2 : Code := { maxStack := 2, maxLocals := 1, code := method_3_code, exceptionTable := #[], attributes := #[] }
def k1m2 : Method := { name := "ch", desc := "(I)C", sig := { parameters := [.int], returnType := some .char }, accessFlags := 10, code := some k1c2 }
def k1c3 : Code := { maxStack := 10, maxLocals := 30, code := code, exceptionTable := #[], attributes := #[] }
def k1m3 : Method := { name := "law", desc := "(JJJJJI)Z", sig := { parameters := [.long, .long, .long, .long, .long, .int], returnType := some .boolean }, accessFlags := 9, code := some k1c3 }
/-- com/example/libtardy/libtardy/QueueCountsToStringPinLaw -/
def k1 : Class := { plain "com/example/libtardy/libtardy/QueueCountsToStringPinLaw" (some 0) with
  accessFlags := 49
  interfaces := #[]
  cf := some (fileOf pool1 25 #[] #[{ accessFlags := 1, nameIndex := 5, descriptorIndex := 6, attributes := #[] }, { accessFlags := 10, nameIndex := 28, descriptorIndex := 29, attributes := #[] }, { accessFlags := 10, nameIndex := 32, descriptorIndex := 33, attributes := #[] }, { accessFlags := 9, nameIndex := 39, descriptorIndex := 40, attributes := #[] }] 49 2 #[] #[])
  fields := #[]
  methods := #[k1m0, k1m1, k1m2, k1m3]
  instanceTypes := #[]
  staticTypes := #[]
  resolved := Array.replicate 46 none
  statics := none }

def pool2 : Array CpInfo := pool [(1, .methodref 2 3), (0, .class_ 4), (0, .nameAndType 5 6), (0, u "java/lang/Object"), (0, u "<init>"), (0, u "()V"), (0, .fieldref 8 9), (0, .class_ 10), (0, .nameAndType 11 12), (0, u "com/example/libtardy/libtardy/QueueCounts"), (0, u "waiting"), (0, u "J"), (0, .fieldref 8 14), (0, .nameAndType 15 12), (0, u "due"), (0, .fieldref 8 17), (0, .nameAndType 18 12), (0, u "inFlight"), (0, .fieldref 8 20), (0, .nameAndType 21 12), (0, u "dead"), (12, .class_ 35), (0, u "java/lang/StringBuilder"), (0, .methodref 34 3), (0, .string 38), (0, u "QueueCounts[waiting="), (0, .methodref 34 40), (0, .nameAndType 41 42), (0, u "append"), (0, u "(Ljava/lang/String;)Ljava/lang/StringBuilder;"), (0, .methodref 34 44), (0, .nameAndType 41 45), (0, u "(J)Ljava/lang/StringBuilder;"), (0, .string 47), (0, u ", due="), (0, .string 49), (0, u ", inFlight="), (0, .string 51), (0, u ", dead="), (0, .string 53), (0, u "]"), (0, .methodref 34 55), (0, .nameAndType 56 57), (0, u "toString"), (0, u "()Ljava/lang/String;"), (0, u "(JJJJ)V")] 10

def k2c0 : Code := { maxStack := 3, maxLocals := 9, code := prog_5_method_1_code, exceptionTable := #[], attributes := #[] }
def k2m0 : Method := { name := "<init>", desc := "(JJJJ)V", sig := { parameters := [.long, .long, .long, .long], returnType := none }, accessFlags := 0, code := some k2c0 }
def k2c1 : Code := { maxStack := 3, maxLocals := 1, code := prog_5_method_8_code, exceptionTable := #[], attributes := #[] }
def k2m1 : Method := { name := "toString", desc := "()Ljava/lang/String;", sig := { parameters := [], returnType := some (.object "java/lang/String") }, accessFlags := 1, code := some k2c1 }
/-- com/example/libtardy/libtardy/QueueCounts -/
def k2 : Class := { plain "com/example/libtardy/libtardy/QueueCounts" (some 0) with
  accessFlags := 33
  interfaces := #[]
  cf := some (fileOf pool2 8 #[] #[{ accessFlags := 0, nameIndex := 5, descriptorIndex := 58, attributes := #[] }, { accessFlags := 1, nameIndex := 56, descriptorIndex := 57, attributes := #[] }] 33 2 #[] #[{ accessFlags := 18, nameIndex := 11, descriptorIndex := 12, attributes := #[] }, { accessFlags := 18, nameIndex := 15, descriptorIndex := 12, attributes := #[] }, { accessFlags := 18, nameIndex := 18, descriptorIndex := 12, attributes := #[] }, { accessFlags := 18, nameIndex := 21, descriptorIndex := 12, attributes := #[] }])
  fields := #[{ name := "waiting", type := .long, accessFlags := 18, slot := 0, constantValue := 0 }, { name := "due", type := .long, accessFlags := 18, slot := 1, constantValue := 0 }, { name := "inFlight", type := .long, accessFlags := 18, slot := 2, constantValue := 0 }, { name := "dead", type := .long, accessFlags := 18, slot := 3, constantValue := 0 }]
  methods := #[k2m0, k2m1]
  instanceTypes := #[.long, .long, .long, .long]
  staticTypes := #[]
  resolved := Array.replicate 69 none
  statics := none }

def pool3 : Array CpInfo := pool [(1, .class_ 2), (0, u "java/lang/Appendable"), (0, .class_ 4), (0, u "java/lang/Object")] 9

/-- java/lang/Appendable -/
def k3 : Class := { plain "java/lang/Appendable" (some 0) with
  accessFlags := 1537
  interfaces := #[]
  cf := some (fileOf pool3 1 #[] #[] 1537 3 #[] #[])
  fields := #[]
  methods := #[]
  instanceTypes := #[]
  staticTypes := #[]
  resolved := Array.replicate 14 none
  statics := none }

def pool4 : Array CpInfo := pool [(2, .class_ 4), (1, u "java/lang/CharSequence"), (42, .class_ 48), (0, u "java/lang/CharSequence$1CodePointIterator"), (10, .class_ 60), (0, u "java/lang/CharSequence$1CharIterator"), (5, .class_ 67), (0, u "java/lang/Object")] 63

/-- java/lang/CharSequence -/
def k4 : Class := { plain "java/lang/CharSequence" (some 0) with
  accessFlags := 1537
  interfaces := #[]
  cf := some (fileOf pool4 2 #[.nestMembers #[47, 59]] #[] 1537 66 #[] #[])
  fields := #[]
  methods := #[]
  instanceTypes := #[]
  staticTypes := #[]
  resolved := Array.replicate 131 none
  statics := none }

def pool5 : Array CpInfo := pool [(1, .class_ 2), (0, u "java/lang/String"), (0, .methodref 4 5), (0, .class_ 6), (0, .nameAndType 7 8), (0, u "java/lang/Object"), (0, u "<init>"), (0, u "()V"), (1, .class_ 12), (1, u "java/lang/AbstractStringBuilder"), (0, u "EMPTYVALUE"), (0, u "[B"), (0, .fieldref 10 16), (0, .nameAndType 17 14), (0, u "value"), (0, .fieldref 1 19), (0, .nameAndType 20 21), (0, u "COMPACT_STRINGS"), (0, u "Z"), (0, .fieldref 10 23), (0, .nameAndType 24 25), (0, u "coder"), (0, u "B"), (6, .methodref 1 33), (0, .nameAndType 34 35), (0, u "length"), (0, u "()I"), (3, .integer 2147483647), (0, .methodref 1 41), (0, .nameAndType 24 42), (0, u "()B"), (2, u "append"), (0, u "(Ljava/lang/String;)Ljava/lang/AbstractStringBuilder;"), (1, .class_ 49), (0, u "java/lang/CharSequence"), (19, u "(Ljava/lang/String;)V"), (5, u "maybeLatin1"), (3, .fieldref 10 80), (0, .nameAndType 81 82), (0, u "count"), (0, u "I"), (0, .methodref 10 84), (0, .nameAndType 85 86), (0, u "isLatin1"), (0, u "()Z"), (13, .methodref 10 101), (0, .nameAndType 102 103), (0, u "ensureCapacityInternal"), (0, u "(I)V"), (0, .methodref 10 105), (0, .nameAndType 106 107), (0, u "newCapacity"), (0, u "(I)I"), (0, .methodref 109 110), (0, .class_ 111), (0, .nameAndType 112 113), (0, u "java/util/Arrays"), (0, u "copyOf"), (0, u "([BI)[B"), (0, .methodref 115 116), (0, .class_ 117), (0, .nameAndType 118 119), (0, u "jdk/internal/util/ArraysSupport"), (0, u "newLength"), (0, u "(III)I"), (68, u "getChars"), (19, .methodref 10 209), (0, .nameAndType 210 211), (0, u "putStringAt"), (0, u "(ILjava/lang/String;)V"), (5, u "inflateIfNeededFor"), (2, .nameAndType 221 222), (0, u "getBytes"), (0, u "([BIB)V"), (24, u "stringSize"), (6, .methodref 255 256), (0, .class_ 257), (0, .nameAndType 247 258), (0, u "java/lang/Long"), (0, u "(J)I"), (0, .methodref 255 260), (0, .nameAndType 188 261), (0, u "(JI[B)I"), (135, .methodref 10 398), (0, .nameAndType 217 69), (0, .methodref 1 220), (3, u "()[B"), (40, .class_ 445), (0, u "java/lang/Appendable"), (67, u "(J)Ljava/lang/AbstractStringBuilder;"), (38, u "getValue")] 56

def k5m0 : Method := { name := "<init>", desc := "()V", sig := { parameters := [], returnType := none }, accessFlags := 0, code := none }
def k5c1 : Code := { maxStack := 2, maxLocals := 2, code := jdk_68_method_2_code, exceptionTable := #[], attributes := #[] }
def k5m1 : Method := { name := "<init>", desc := "(I)V", sig := { parameters := [.int], returnType := none }, accessFlags := 0, code := some k5c1 }
def k5c2 : Code := { maxStack := 1, maxLocals := 1, code := jdk_68_method_6_code, exceptionTable := #[], attributes := #[] }
def k5m2 : Method := { name := "length", desc := "()I", sig := { parameters := [], returnType := some .int }, accessFlags := 1, code := some k5c2 }
def k5c3 : Code := { maxStack := 4, maxLocals := 3, code := jdk_68_method_9_code, exceptionTable := #[], attributes := #[] }
def k5m3 : Method := { name := "ensureCapacityInternal", desc := "(I)V", sig := { parameters := [.int], returnType := none }, accessFlags := 2, code := some k5c3 }
def k5c4 : Code := { maxStack := 5, maxLocals := 6, code := jdk_68_method_10_code, exceptionTable := #[], attributes := #[] }
def k5m4 : Method := { name := "newCapacity", desc := "(I)I", sig := { parameters := [.int], returnType := some .int }, accessFlags := 2, code := some k5c4 }
def k5c5 : Code := { maxStack := 3, maxLocals := 3, code := jdk_68_method_22_code, exceptionTable := #[], attributes := #[] }
def k5m5 : Method := { name := "append", desc := "(Ljava/lang/String;)Ljava/lang/AbstractStringBuilder;", sig := { parameters := [(.object "java/lang/String")], returnType := some (.object "java/lang/AbstractStringBuilder") }, accessFlags := 1, code := some k5c5 }
def k5c6 : Code := { maxStack := 5, maxLocals := 5, code := jdk_68_method_33_code, exceptionTable := #[], attributes := #[] }
def k5m6 : Method := { name := "append", desc := "(J)Ljava/lang/AbstractStringBuilder;", sig := { parameters := [.long], returnType := some (.object "java/lang/AbstractStringBuilder") }, accessFlags := 1, code := some k5c6 }
def k5c7 : Code := { maxStack := 1, maxLocals := 1, code := jdk_68_method_64_code, exceptionTable := #[], attributes := #[] }
def k5m7 : Method := { name := "getValue", desc := "()[B", sig := { parameters := [], returnType := some (.array .byte) }, accessFlags := 16, code := some k5c7 }
def k5c8 : Code := { maxStack := 1, maxLocals := 1, code := jdk_68_method_68_code, exceptionTable := #[], attributes := #[] }
def k5m8 : Method := { name := "isLatin1", desc := "()Z", sig := { parameters := [], returnType := some .boolean }, accessFlags := 16, code := some k5c8 }
def k5c9 : Code := { maxStack := 2, maxLocals := 2, code := jdk_68_method_71_code, exceptionTable := #[], attributes := #[] }
def k5m9 : Method := { name := "inflateIfNeededFor", desc := "(Ljava/lang/String;)V", sig := { parameters := [(.object "java/lang/String")], returnType := none }, accessFlags := 2, code := some k5c9 }
def k5c10 : Code := { maxStack := 4, maxLocals := 3, code := jdk_68_method_73_code, exceptionTable := #[], attributes := #[] }
def k5m10 : Method := { name := "putStringAt", desc := "(ILjava/lang/String;)V", sig := { parameters := [.int, (.object "java/lang/String")], returnType := none }, accessFlags := 2, code := some k5c10 }
/-- java/lang/AbstractStringBuilder -/
def k5 : Class := { plain "java/lang/AbstractStringBuilder" (some 0) with
  accessFlags := 1056
  interfaces := #[3, 4]
  cf := some (fileOf pool5 10 #[] #[{ accessFlags := 0, nameIndex := 7, descriptorIndex := 8, attributes := #[] }, { accessFlags := 0, nameIndex := 7, descriptorIndex := 103, attributes := #[] }, { accessFlags := 1, nameIndex := 34, descriptorIndex := 35, attributes := #[] }, { accessFlags := 2, nameIndex := 102, descriptorIndex := 103, attributes := #[] }, { accessFlags := 2, nameIndex := 106, descriptorIndex := 107, attributes := #[] }, { accessFlags := 1, nameIndex := 45, descriptorIndex := 46, attributes := #[] }, { accessFlags := 1, nameIndex := 45, descriptorIndex := 513, attributes := #[] }, { accessFlags := 16, nameIndex := 552, descriptorIndex := 403, attributes := #[] }, { accessFlags := 16, nameIndex := 85, descriptorIndex := 86, attributes := #[] }, { accessFlags := 2, nameIndex := 217, descriptorIndex := 69, attributes := #[] }, { accessFlags := 2, nameIndex := 210, descriptorIndex := 211, attributes := #[] }] 1056 4 #[444, 48] #[{ accessFlags := 0, nameIndex := 17, descriptorIndex := 14, attributes := #[] }, { accessFlags := 0, nameIndex := 24, descriptorIndex := 25, attributes := #[] }, { accessFlags := 0, nameIndex := 75, descriptorIndex := 21, attributes := #[] }, { accessFlags := 0, nameIndex := 81, descriptorIndex := 82, attributes := #[] }, { accessFlags := 26, nameIndex := 13, descriptorIndex := 14, attributes := #[] }])
  fields := #[{ name := "value", type := (.array .byte), accessFlags := 0, slot := 0, constantValue := 0 }, { name := "coder", type := .byte, accessFlags := 0, slot := 1, constantValue := 0 }, { name := "maybeLatin1", type := .boolean, accessFlags := 0, slot := 2, constantValue := 0 }, { name := "count", type := .int, accessFlags := 0, slot := 3, constantValue := 0 }, { name := "EMPTYVALUE", type := (.array .byte), accessFlags := 26, slot := 0, constantValue := 0 }]
  methods := #[k5m0, k5m1, k5m2, k5m3, k5m4, k5m5, k5m6, k5m7, k5m8, k5m9, k5m10]
  instanceTypes := #[(.array .byte), .byte, .boolean, .int]
  staticTypes := #[(.array .byte)]
  resolved := Array.replicate 609 none
  statics := none }

def pool6 : Array CpInfo := pool [(1, .class_ 2), (0, u "java/io/Serializable"), (0, .class_ 4), (0, u "java/lang/Object")] 2

/-- java/io/Serializable -/
def k6 : Class := { plain "java/io/Serializable" (some 0) with
  accessFlags := 1537
  interfaces := #[]
  cf := some (fileOf pool6 1 #[] #[] 1537 3 #[] #[])
  fields := #[]
  methods := #[]
  instanceTypes := #[]
  staticTypes := #[]
  resolved := Array.replicate 7 none
  statics := none }

def pool7 : Array CpInfo := pool [(1, .class_ 2), (0, u "java/lang/Comparable"), (0, .class_ 4), (0, u "java/lang/Object")] 7

/-- java/lang/Comparable -/
def k7 : Class := { plain "java/lang/Comparable" (some 0) with
  accessFlags := 1537
  interfaces := #[]
  cf := some (fileOf pool7 1 #[] #[] 1537 3 #[] #[])
  fields := #[]
  methods := #[]
  instanceTypes := #[]
  staticTypes := #[]
  resolved := Array.replicate 12 none
  statics := none }

def pool8 : Array CpInfo := pool [(1, .methodref 2 3), (0, .class_ 4), (0, .nameAndType 5 6), (0, u "java/lang/AbstractStringBuilder"), (0, u "<init>"), (0, u "(I)V"), (11, .class_ 20), (1, u "java/lang/String"), (3, .class_ 26), (1, u "java/lang/StringBuilder"), (0, u "append"), (0, u "(Ljava/lang/String;)Ljava/lang/StringBuilder;"), (0, .methodref 2 30), (0, .nameAndType 27 31), (0, u "(Ljava/lang/String;)Ljava/lang/AbstractStringBuilder;"), (24, .methodref 2 57), (0, .nameAndType 27 58), (0, u "(J)Ljava/lang/AbstractStringBuilder;"), (78, .methodref 18 138), (0, .nameAndType 5 139), (0, u "(Ljava/lang/StringBuilder;)V"), (5, u "()V"), (10, u "()I"), (124, u "(J)Ljava/lang/StringBuilder;"), (61, .methodref 2 344), (0, .nameAndType 345 156), (0, u "length"), (3, .class_ 350), (0, u "java/lang/Appendable"), (0, .class_ 352), (0, u "java/io/Serializable"), (0, .class_ 354), (0, u "java/lang/Comparable"), (0, .class_ 356), (0, u "java/lang/CharSequence"), (0, u "serialVersionUID"), (0, u "J"), (40, u "toString"), (0, u "()Ljava/lang/String;")] 21

def k8c0 : Code := { maxStack := 2, maxLocals := 1, code := jdk_67_method_1_code, exceptionTable := #[], attributes := #[] }
def k8m0 : Method := { name := "<init>", desc := "()V", sig := { parameters := [], returnType := none }, accessFlags := 1, code := some k8c0 }
def k8c1 : Code := { maxStack := 2, maxLocals := 2, code := jdk_67_method_7_code, exceptionTable := #[], attributes := #[] }
def k8m1 : Method := { name := "append", desc := "(Ljava/lang/String;)Ljava/lang/StringBuilder;", sig := { parameters := [(.object "java/lang/String")], returnType := some (.object "java/lang/StringBuilder") }, accessFlags := 1, code := some k8c1 }
def k8c2 : Code := { maxStack := 3, maxLocals := 3, code := jdk_67_method_16_code, exceptionTable := #[], attributes := #[] }
def k8m2 : Method := { name := "append", desc := "(J)Ljava/lang/StringBuilder;", sig := { parameters := [.long], returnType := some (.object "java/lang/StringBuilder") }, accessFlags := 1, code := some k8c2 }
def k8c3 : Code := { maxStack := 3, maxLocals := 1, code := jdk_67_method_42_code, exceptionTable := #[], attributes := #[] }
def k8m3 : Method := { name := "toString", desc := "()Ljava/lang/String;", sig := { parameters := [], returnType := some (.object "java/lang/String") }, accessFlags := 1, code := some k8c3 }
def k8c4 : Code := { maxStack := 1, maxLocals := 1, code := jdk_67_method_93_code, exceptionTable := #[], attributes := #[] }
def k8m4 : Method := { name := "length", desc := "()I", sig := { parameters := [], returnType := some .int }, accessFlags := 4161, code := some k8c4 }
/-- java/lang/StringBuilder -/
def k8 : Class := { plain "java/lang/StringBuilder" (some 5) with
  accessFlags := 49
  interfaces := #[3, 6, 7, 4]
  cf := some (fileOf pool8 24 #[] #[{ accessFlags := 1, nameIndex := 5, descriptorIndex := 145, attributes := #[] }, { accessFlags := 1, nameIndex := 27, descriptorIndex := 28, attributes := #[] }, { accessFlags := 1, nameIndex := 27, descriptorIndex := 281, attributes := #[] }, { accessFlags := 1, nameIndex := 399, descriptorIndex := 400, attributes := #[] }, { accessFlags := 4161, nameIndex := 345, descriptorIndex := 156, attributes := #[] }] 49 2 #[349, 351, 353, 355] #[{ accessFlags := 24, nameIndex := 357, descriptorIndex := 358, attributes := #[] }])
  fields := #[{ name := "serialVersionUID", type := .long, accessFlags := 24, slot := 0, constantValue := 0 }]
  methods := #[k8m0, k8m1, k8m2, k8m3, k8m4]
  instanceTypes := #[(.array .byte), .byte, .boolean, .int]
  staticTypes := #[.long]
  resolved := Array.replicate 422 none
  statics := none }

def pool9 : Array CpInfo := pool [(1, .class_ 2), (0, u "java/lang/constant/Constable"), (0, .class_ 4), (0, u "java/lang/Object")] 6

/-- java/lang/constant/Constable -/
def k9 : Class := { plain "java/lang/constant/Constable" (some 0) with
  accessFlags := 1537
  interfaces := #[]
  cf := some (fileOf pool9 1 #[] #[] 1537 3 #[] #[])
  fields := #[]
  methods := #[]
  instanceTypes := #[]
  staticTypes := #[]
  resolved := Array.replicate 11 none
  statics := none }

def pool10 : Array CpInfo := pool [(1, .class_ 2), (0, u "java/lang/constant/ConstantDesc"), (0, .class_ 4), (0, u "java/lang/Object")] 32

/-- java/lang/constant/ConstantDesc -/
def k10 : Class := { plain "java/lang/constant/ConstantDesc" (some 0) with
  accessFlags := 1537
  interfaces := #[]
  cf := some (fileOf pool10 1 #[] #[] 1537 3 #[] #[])
  fields := #[]
  methods := #[]
  instanceTypes := #[]
  staticTypes := #[]
  resolved := Array.replicate 37 none
  statics := none }

def pool11 : Array CpInfo := pool [(1, .methodref 2 3), (0, .class_ 4), (0, .nameAndType 5 6), (0, u "java/lang/Object"), (0, u "<init>"), (0, u "()V"), (2, .fieldref 10 11), (0, .class_ 12), (0, .nameAndType 13 14), (0, u "java/lang/String"), (0, u "value"), (0, u "[B"), (0, .fieldref 10 16), (0, .nameAndType 17 18), (0, u "coder"), (0, u "B"), (2, u "hash"), (0, u "I"), (2, u "hashIsZero"), (0, u "Z"), (0, .methodref 10 28), (0, .nameAndType 5 29), (0, u "([CIILjava/lang/Void;)V"), (8, .fieldref 10 39), (0, .nameAndType 40 26), (0, u "COMPACT_STRINGS"), (1, .class_ 44), (1, u "java/lang/StringUTF16"), (0, u "compress"), (1, .methodref 42 48), (0, .nameAndType 49 50), (0, u "coderFromArrayLen"), (0, u "([BI)B"), (3, .methodref 55 56), (0, .class_ 57), (0, .nameAndType 58 59), (0, u "java/util/Arrays"), (0, u "copyOfRange"), (0, u "([BII)[B"), (47, .class_ 109), (1, u "java/lang/StringLatin1"), (32, u "()Z"), (34, .methodref 42 178), (0, .nameAndType 45 179), (0, u "([CII)[B"), (13, .class_ 195), (1, u "java/lang/System"), (16, .methodref 193 213), (0, .nameAndType 214 215), (0, u "arraycopy"), (0, u "(Ljava/lang/Object;ILjava/lang/Object;II)V"), (118, u "()I"), (0, .methodref 10 336), (0, .nameAndType 17 337), (0, u "()B"), (2, u "()[B"), (148, .methodref 10 490), (0, .nameAndType 5 491), (0, u "(Ljava/lang/AbstractStringBuilder;Ljava/lang/Void;)V"), (1, .nameAndType 494 142), (0, u "isLatin1"), (11, .nameAndType 507 334), (0, u "length"), (24, u "getBytes"), (8, .methodref 107 542), (0, .nameAndType 543 544), (0, u "equals"), (0, u "([B[B)Z"), (4, .methodref 550 506), (0, .class_ 551), (0, u "java/lang/AbstractStringBuilder"), (0, .methodref 550 553), (0, .nameAndType 554 340), (0, u "getValue"), (18, u "(Ljava/lang/Object;)Z"), (1, .class_ 576), (0, u "java/lang/CharSequence"), (22, u "CASE_INSENSITIVE_ORDER"), (0, u "Ljava/util/Comparator;"), (220, u "([BIB)V"), (188, u "([C)V"), (36, .methodref 550 493), (53, u "serialPersistentFields"), (0, u "[Ljava/io/ObjectStreamField;"), (0, .class_ 1104), (0, u "java/lang/String$CaseInsensitiveComparator"), (1, .class_ 1107), (0, u "java/io/Serializable"), (0, .class_ 1109), (0, u "java/lang/Comparable"), (0, .class_ 1111), (0, u "java/lang/constant/Constable"), (0, .class_ 1113), (0, u "java/lang/constant/ConstantDesc"), (2, u "serialVersionUID"), (0, u "J"), (3, u "REPL"), (0, u "C"), (2, u "LATIN1"), (1, u "UTF16"), (105, u "(Ljava/lang/StringBuilder;)V")] 217

def k11m0 : Method := { name := "<init>", desc := "()V", sig := { parameters := [], returnType := none }, accessFlags := 1, code := none }
def k11c1 : Code := { maxStack := 5, maxLocals := 2, code := jdk_42_method_3_code, exceptionTable := #[], attributes := #[] }
def k11m1 : Method := { name := "<init>", desc := "([C)V", sig := { parameters := [(.array .char)], returnType := none }, accessFlags := 1, code := some k11c1 }
def k11c2 : Code := { maxStack := 3, maxLocals := 2, code := jdk_42_method_53_code, exceptionTable := #[], attributes := #[] }
def k11m2 : Method := { name := "<init>", desc := "(Ljava/lang/StringBuilder;)V", sig := { parameters := [(.object "java/lang/StringBuilder")], returnType := none }, accessFlags := 1, code := some k11c2 }
def k11c3 : Code := { maxStack := 2, maxLocals := 1, code := jdk_42_method_54_code, exceptionTable := #[], attributes := #[] }
def k11m3 : Method := { name := "length", desc := "()I", sig := { parameters := [], returnType := some .int }, accessFlags := 1, code := some k11c3 }
def k11c4 : Code := { maxStack := 2, maxLocals := 3, code := jdk_42_method_66_code, exceptionTable := #[], attributes := #[] }
def k11m4 : Method := { name := "equals", desc := "(Ljava/lang/Object;)Z", sig := { parameters := [(.object "java/lang/Object")], returnType := some .boolean }, accessFlags := 1, code := some k11c4 }
def k11c5 : Code := { maxStack := 5, maxLocals := 4, code := jdk_42_method_147_code, exceptionTable := #[], attributes := #[] }
def k11m5 : Method := { name := "getBytes", desc := "([BIB)V", sig := { parameters := [(.array .byte), .int, .byte], returnType := none }, accessFlags := 0, code := some k11c5 }
def k11c6 : Code := { maxStack := 4, maxLocals := 6, code := jdk_42_method_149_code, exceptionTable := #[], attributes := #[] }
def k11m6 : Method := { name := "<init>", desc := "([CIILjava/lang/Void;)V", sig := { parameters := [(.array .char), .int, .int, (.object "java/lang/Void")], returnType := none }, accessFlags := 2, code := some k11c6 }
def k11c7 : Code := { maxStack := 5, maxLocals := 5, code := jdk_42_method_150_code, exceptionTable := #[], attributes := #[] }
def k11m7 : Method := { name := "<init>", desc := "(Ljava/lang/AbstractStringBuilder;Ljava/lang/Void;)V", sig := { parameters := [(.object "java/lang/AbstractStringBuilder"), (.object "java/lang/Void")], returnType := none }, accessFlags := 0, code := some k11c7 }
def k11c8 : Code := { maxStack := 1, maxLocals := 1, code := jdk_42_method_152_code, exceptionTable := #[], attributes := #[] }
def k11m8 : Method := { name := "coder", desc := "()B", sig := { parameters := [], returnType := some .byte }, accessFlags := 0, code := some k11c8 }
/-- java/lang/String -/
def k11 : Class := { plain "java/lang/String" (some 0) with
  accessFlags := 49
  interfaces := #[6, 7, 4, 9, 10]
  cf := some (fileOf pool11 10 #[.nestMembers #[1103]] #[{ accessFlags := 1, nameIndex := 5, descriptorIndex := 6, attributes := #[] }, { accessFlags := 1, nameIndex := 5, descriptorIndex := 1010, attributes := #[] }, { accessFlags := 1, nameIndex := 5, descriptorIndex := 1233, attributes := #[] }, { accessFlags := 1, nameIndex := 507, descriptorIndex := 334, attributes := #[] }, { accessFlags := 1, nameIndex := 543, descriptorIndex := 573, attributes := #[] }, { accessFlags := 0, nameIndex := 532, descriptorIndex := 821, attributes := #[] }, { accessFlags := 2, nameIndex := 5, descriptorIndex := 29, attributes := #[] }, { accessFlags := 0, nameIndex := 5, descriptorIndex := 491, attributes := #[] }, { accessFlags := 0, nameIndex := 17, descriptorIndex := 337, attributes := #[] }] 49 2 #[1106, 1108, 575, 1110, 1112] #[{ accessFlags := 18, nameIndex := 13, descriptorIndex := 14, attributes := #[] }, { accessFlags := 18, nameIndex := 17, descriptorIndex := 18, attributes := #[] }, { accessFlags := 2, nameIndex := 21, descriptorIndex := 22, attributes := #[] }, { accessFlags := 2, nameIndex := 25, descriptorIndex := 26, attributes := #[] }, { accessFlags := 26, nameIndex := 1116, descriptorIndex := 1117, attributes := #[] }, { accessFlags := 24, nameIndex := 40, descriptorIndex := 26, attributes := #[] }, { accessFlags := 26, nameIndex := 1101, descriptorIndex := 1102, attributes := #[] }, { accessFlags := 26, nameIndex := 1121, descriptorIndex := 1122, attributes := #[] }, { accessFlags := 25, nameIndex := 599, descriptorIndex := 600, attributes := #[] }, { accessFlags := 24, nameIndex := 1125, descriptorIndex := 18, attributes := #[] }, { accessFlags := 24, nameIndex := 1127, descriptorIndex := 18, attributes := #[] }])
  fields := #[{ name := "value", type := (.array .byte), accessFlags := 18, slot := 0, constantValue := 0 }, { name := "coder", type := .byte, accessFlags := 18, slot := 1, constantValue := 0 }, { name := "hash", type := .int, accessFlags := 2, slot := 2, constantValue := 0 }, { name := "hashIsZero", type := .boolean, accessFlags := 2, slot := 3, constantValue := 0 }, { name := "serialVersionUID", type := .long, accessFlags := 26, slot := 0, constantValue := 0 }, { name := "COMPACT_STRINGS", type := .boolean, accessFlags := 24, slot := 1, constantValue := 0 }, { name := "serialPersistentFields", type := (.array (.object "java/io/ObjectStreamField")), accessFlags := 26, slot := 2, constantValue := 0 }, { name := "REPL", type := .char, accessFlags := 26, slot := 3, constantValue := 0 }, { name := "CASE_INSENSITIVE_ORDER", type := (.object "java/util/Comparator"), accessFlags := 25, slot := 4, constantValue := 0 }, { name := "LATIN1", type := .byte, accessFlags := 24, slot := 5, constantValue := 0 }, { name := "UTF16", type := .byte, accessFlags := 24, slot := 6, constantValue := 0 }]
  methods := #[k11m0, k11m1, k11m2, k11m3, k11m4, k11m5, k11m6, k11m7, k11m8]
  instanceTypes := #[(.array .byte), .byte, .int, .boolean]
  staticTypes := #[.long, .boolean, (.array (.object "java/io/ObjectStreamField")), .char, (.object "java/util/Comparator"), .byte, .byte]
  resolved := Array.replicate 1451 none
  statics := some 0 }

def pool12 : Array CpInfo := pool [(9, u "<init>"), (6, .class_ 18), (1, u "java/lang/Object"), (0, u "()V"), (1, .class_ 23), (1, u "jdk/internal/util/ArraysSupport"), (0, u "LOG2_ARRAY_LONG_INDEX_SCALE"), (0, u "I"), (2, u "U"), (0, u "Ljdk/internal/misc/Unsafe;"), (8, u "BIG_ENDIAN"), (0, u "Z"), (8, u "LOG2_BYTE_BIT_SIZE"), (4, u "LOG2_ARRAY_INT_INDEX_SCALE"), (54, u "JLA"), (0, u "Ljdk/internal/access/JavaLangAccess;"), (11, u "LOG2_ARRAY_BOOLEAN_INDEX_SCALE"), (9, u "LOG2_ARRAY_BYTE_INDEX_SCALE"), (5, u "LOG2_ARRAY_CHAR_INDEX_SCALE"), (5, u "LOG2_ARRAY_SHORT_INDEX_SCALE"), (18, u "LOG2_ARRAY_FLOAT_INDEX_SCALE"), (24, u "LOG2_ARRAY_DOUBLE_INDEX_SCALE"), (6, .methodref 195 196), (0, .class_ 197), (0, .nameAndType 198 199), (0, u "java/lang/Math"), (0, u "max"), (0, u "(II)I"), (0, .integer 2147483639), (76, u "T_BOOLEAN"), (2, u "T_CHAR"), (1, u "T_FLOAT"), (1, u "T_DOUBLE"), (1, u "T_BYTE"), (1, u "T_SHORT"), (1, u "T_INT"), (1, u "T_LONG"), (1, u "SOFT_MAX_ARRAY_LENGTH"), (56, u "newLength"), (0, u "(III)I")] 25

def k12m0 : Method := { name := "<init>", desc := "()V", sig := { parameters := [], returnType := none }, accessFlags := 2, code := none }
def k12c1 : Code := { maxStack := 3, maxLocals := 4, code := jdk_48_method_27_code, exceptionTable := #[], attributes := #[] }
def k12m1 : Method := { name := "newLength", desc := "(III)I", sig := { parameters := [.int, .int, .int], returnType := some .int }, accessFlags := 9, code := some k12c1 }
/-- jdk/internal/util/ArraysSupport -/
def k12 : Class := { plain "jdk/internal/util/ArraysSupport" (some 0) with
  accessFlags := 33
  interfaces := #[]
  cf := some (fileOf pool12 21 #[] #[{ accessFlags := 2, nameIndex := 9, descriptorIndex := 19, attributes := #[] }, { accessFlags := 9, nameIndex := 351, descriptorIndex := 352, attributes := #[] }] 33 16 #[] #[{ accessFlags := 24, nameIndex := 28, descriptorIndex := 29, attributes := #[] }, { accessFlags := 26, nameIndex := 38, descriptorIndex := 39, attributes := #[] }, { accessFlags := 25, nameIndex := 121, descriptorIndex := 25, attributes := #[] }, { accessFlags := 25, nameIndex := 131, descriptorIndex := 25, attributes := #[] }, { accessFlags := 25, nameIndex := 137, descriptorIndex := 25, attributes := #[] }, { accessFlags := 25, nameIndex := 143, descriptorIndex := 25, attributes := #[] }, { accessFlags := 25, nameIndex := 53, descriptorIndex := 25, attributes := #[] }, { accessFlags := 25, nameIndex := 24, descriptorIndex := 25, attributes := #[] }, { accessFlags := 25, nameIndex := 162, descriptorIndex := 25, attributes := #[] }, { accessFlags := 25, nameIndex := 187, descriptorIndex := 25, attributes := #[] }, { accessFlags := 26, nameIndex := 48, descriptorIndex := 25, attributes := #[] }, { accessFlags := 25, nameIndex := 277, descriptorIndex := 25, attributes := #[] }, { accessFlags := 25, nameIndex := 280, descriptorIndex := 25, attributes := #[] }, { accessFlags := 25, nameIndex := 282, descriptorIndex := 25, attributes := #[] }, { accessFlags := 25, nameIndex := 284, descriptorIndex := 25, attributes := #[] }, { accessFlags := 25, nameIndex := 286, descriptorIndex := 25, attributes := #[] }, { accessFlags := 25, nameIndex := 288, descriptorIndex := 25, attributes := #[] }, { accessFlags := 25, nameIndex := 290, descriptorIndex := 25, attributes := #[] }, { accessFlags := 25, nameIndex := 292, descriptorIndex := 25, attributes := #[] }, { accessFlags := 26, nameIndex := 108, descriptorIndex := 109, attributes := #[] }, { accessFlags := 25, nameIndex := 294, descriptorIndex := 25, attributes := #[] }])
  fields := #[{ name := "U", type := (.object "jdk/internal/misc/Unsafe"), accessFlags := 24, slot := 0, constantValue := 0 }, { name := "BIG_ENDIAN", type := .boolean, accessFlags := 26, slot := 1, constantValue := 0 }, { name := "LOG2_ARRAY_BOOLEAN_INDEX_SCALE", type := .int, accessFlags := 25, slot := 2, constantValue := 0 }, { name := "LOG2_ARRAY_BYTE_INDEX_SCALE", type := .int, accessFlags := 25, slot := 3, constantValue := 0 }, { name := "LOG2_ARRAY_CHAR_INDEX_SCALE", type := .int, accessFlags := 25, slot := 4, constantValue := 0 }, { name := "LOG2_ARRAY_SHORT_INDEX_SCALE", type := .int, accessFlags := 25, slot := 5, constantValue := 0 }, { name := "LOG2_ARRAY_INT_INDEX_SCALE", type := .int, accessFlags := 25, slot := 6, constantValue := 0 }, { name := "LOG2_ARRAY_LONG_INDEX_SCALE", type := .int, accessFlags := 25, slot := 7, constantValue := 0 }, { name := "LOG2_ARRAY_FLOAT_INDEX_SCALE", type := .int, accessFlags := 25, slot := 8, constantValue := 0 }, { name := "LOG2_ARRAY_DOUBLE_INDEX_SCALE", type := .int, accessFlags := 25, slot := 9, constantValue := 0 }, { name := "LOG2_BYTE_BIT_SIZE", type := .int, accessFlags := 26, slot := 10, constantValue := 0 }, { name := "T_BOOLEAN", type := .int, accessFlags := 25, slot := 11, constantValue := 0 }, { name := "T_CHAR", type := .int, accessFlags := 25, slot := 12, constantValue := 0 }, { name := "T_FLOAT", type := .int, accessFlags := 25, slot := 13, constantValue := 0 }, { name := "T_DOUBLE", type := .int, accessFlags := 25, slot := 14, constantValue := 0 }, { name := "T_BYTE", type := .int, accessFlags := 25, slot := 15, constantValue := 0 }, { name := "T_SHORT", type := .int, accessFlags := 25, slot := 16, constantValue := 0 }, { name := "T_INT", type := .int, accessFlags := 25, slot := 17, constantValue := 0 }, { name := "T_LONG", type := .int, accessFlags := 25, slot := 18, constantValue := 0 }, { name := "JLA", type := (.object "jdk/internal/access/JavaLangAccess"), accessFlags := 26, slot := 19, constantValue := 0 }, { name := "SOFT_MAX_ARRAY_LENGTH", type := .int, accessFlags := 25, slot := 20, constantValue := 0 }]
  methods := #[k12m0, k12m1]
  instanceTypes := #[]
  staticTypes := #[(.object "jdk/internal/misc/Unsafe"), .boolean, .int, .int, .int, .int, .int, .int, .int, .int, .int, .int, .int, .int, .int, .int, .int, .int, .int, (.object "jdk/internal/access/JavaLangAccess"), .int]
  resolved := Array.replicate 378 none
  statics := none }

def pool13 : Array CpInfo := pool [(1, .class_ 2), (0, u "java/lang/Math"), (1, .class_ 6), (1, u "java/lang/Object"), (0, u "<init>"), (0, u "()V"), (89, .class_ 100), (1, u "java/lang/Math$RandomNumberGeneratorHolder"), (71, u "negativeZeroFloatBits"), (0, u "J"), (2, u "negativeZeroDoubleBits"), (21, u "max"), (2, u "min"), (43, u "$assertionsDisabled"), (0, u "Z"), (88, u "(II)I"), (2, u "twoToTheDoubleScaleDown"), (0, u "D"), (4, u "twoToTheDoubleScaleUp"), (9, u "E"), (3, u "PI"), (2, u "TAU"), (2, u "DEGREES_TO_RADIANS"), (0, u "RADIANS_TO_DEGREES")] 94

def k13m0 : Method := { name := "<init>", desc := "()V", sig := { parameters := [], returnType := none }, accessFlags := 2, code := none }
def k13c1 : Code := { maxStack := 2, maxLocals := 2, code := jdk_29_method_65_code, exceptionTable := #[], attributes := #[] }
def k13m1 : Method := { name := "max", desc := "(II)I", sig := { parameters := [.int, .int], returnType := some .int }, accessFlags := 9, code := some k13c1 }
def k13c2 : Code := { maxStack := 2, maxLocals := 2, code := jdk_29_method_69_code, exceptionTable := #[], attributes := #[] }
def k13m2 : Method := { name := "min", desc := "(II)I", sig := { parameters := [.int, .int], returnType := some .int }, accessFlags := 9, code := some k13c2 }
/-- java/lang/Math -/
def k13 : Class := { plain "java/lang/Math" (some 0) with
  accessFlags := 49
  interfaces := #[]
  cf := some (fileOf pool13 1 #[.nestMembers #[98]] #[{ accessFlags := 2, nameIndex := 7, descriptorIndex := 8, attributes := #[] }, { accessFlags := 9, nameIndex := 198, descriptorIndex := 335, attributes := #[] }, { accessFlags := 9, nameIndex := 201, descriptorIndex := 335, attributes := #[] }] 49 4 #[] #[{ accessFlags := 25, nameIndex := 354, descriptorIndex := 339, attributes := #[] }, { accessFlags := 25, nameIndex := 358, descriptorIndex := 339, attributes := #[] }, { accessFlags := 25, nameIndex := 361, descriptorIndex := 339, attributes := #[] }, { accessFlags := 26, nameIndex := 364, descriptorIndex := 339, attributes := #[] }, { accessFlags := 26, nameIndex := 365, descriptorIndex := 339, attributes := #[] }, { accessFlags := 26, nameIndex := 172, descriptorIndex := 173, attributes := #[] }, { accessFlags := 26, nameIndex := 176, descriptorIndex := 173, attributes := #[] }, { accessFlags := 8, nameIndex := 344, descriptorIndex := 339, attributes := #[] }, { accessFlags := 8, nameIndex := 338, descriptorIndex := 339, attributes := #[] }, { accessFlags := 4120, nameIndex := 245, descriptorIndex := 246, attributes := #[] }])
  fields := #[{ name := "E", type := .double, accessFlags := 25, slot := 0, constantValue := 0 }, { name := "PI", type := .double, accessFlags := 25, slot := 1, constantValue := 0 }, { name := "TAU", type := .double, accessFlags := 25, slot := 2, constantValue := 0 }, { name := "DEGREES_TO_RADIANS", type := .double, accessFlags := 26, slot := 3, constantValue := 0 }, { name := "RADIANS_TO_DEGREES", type := .double, accessFlags := 26, slot := 4, constantValue := 0 }, { name := "negativeZeroFloatBits", type := .long, accessFlags := 26, slot := 5, constantValue := 0 }, { name := "negativeZeroDoubleBits", type := .long, accessFlags := 26, slot := 6, constantValue := 0 }, { name := "twoToTheDoubleScaleUp", type := .double, accessFlags := 8, slot := 7, constantValue := 0 }, { name := "twoToTheDoubleScaleDown", type := .double, accessFlags := 8, slot := 8, constantValue := 0 }, { name := "$assertionsDisabled", type := .boolean, accessFlags := 4120, slot := 9, constantValue := 0 }]
  methods := #[k13m0, k13m1, k13m2]
  instanceTypes := #[]
  staticTypes := #[.double, .double, .double, .double, .double, .long, .long, .double, .double, .boolean]
  resolved := Array.replicate 460 none
  statics := none }

def pool14 : Array CpInfo := pool [(2, .class_ 4), (1, u "java/lang/Object"), (0, u "<init>"), (0, u "()V"), (7, .class_ 16), (1, u "java/util/Arrays"), (57, .class_ 76), (1, u "java/util/Arrays$NaturalOrder"), (32, u "()Ljava/lang/Object;"), (3, .class_ 115), (1, u "java/util/Arrays$LegacyMergeSort"), (1, u "Z"), (10, .nameAndType 129 109), (0, u "clone"), (9, u "copyOfRange"), (10, .methodref 151 152), (0, .class_ 153), (0, .nameAndType 154 155), (0, u "java/lang/System"), (0, u "arraycopy"), (0, u "(Ljava/lang/Object;ILjava/lang/Object;II)V"), (146, u "copyOf"), (1, .methodref 305 306), (0, .class_ 307), (0, .nameAndType 308 309), (0, u "java/lang/Math"), (0, u "min"), (0, u "(II)I"), (0, .methodref 311 128), (0, .class_ 312), (0, u "[B"), (26, .methodref 14 340), (0, .nameAndType 341 342), (0, u "copyOfRangeByte"), (0, u "([BII)[B"), (0, .methodref 14 344), (0, .nameAndType 345 346), (0, u "checkLength"), (0, u "(II)V"), (28, .class_ 376), (0, u "java/util/Arrays$ArrayList"), (68, u "$assertionsDisabled"), (269, u "MIN_ARRAY_SORT_GRAN"), (0, u "I"), (2, u "INSERTIONSORT_THRESHOLD"), (149, u "([BI)[B"), (105, .class_ 976), (0, u "java/util/Arrays$ArrayItr")] 52

def k14m0 : Method := { name := "<init>", desc := "()V", sig := { parameters := [], returnType := none }, accessFlags := 2, code := none }
def k14c1 : Code := { maxStack := 6, maxLocals := 3, code := jdk_65_method_121_code, exceptionTable := #[], attributes := #[] }
def k14m1 : Method := { name := "copyOf", desc := "([BI)[B", sig := { parameters := [(.array .byte), .int], returnType := some (.array .byte) }, accessFlags := 9, code := some k14c1 }
def k14c2 : Code := { maxStack := 4, maxLocals := 2, code := jdk_65_method_131_code, exceptionTable := #[], attributes := #[] }
def k14m2 : Method := { name := "checkLength", desc := "(II)V", sig := { parameters := [.int, .int], returnType := none }, accessFlags := 10, code := some k14c2 }
def k14c3 : Code := { maxStack := 3, maxLocals := 3, code := jdk_65_method_132_code, exceptionTable := #[], attributes := #[] }
def k14m3 : Method := { name := "copyOfRange", desc := "([BII)[B", sig := { parameters := [(.array .byte), .int, .int], returnType := some (.array .byte) }, accessFlags := 9, code := some k14c3 }
def k14c4 : Code := { maxStack := 6, maxLocals := 5, code := jdk_65_method_133_code, exceptionTable := #[], attributes := #[] }
def k14m4 : Method := { name := "copyOfRangeByte", desc := "([BII)[B", sig := { parameters := [(.array .byte), .int, .int], returnType := some (.array .byte) }, accessFlags := 10, code := some k14c4 }
/-- java/util/Arrays -/
def k14 : Class := { plain "java/util/Arrays" (some 0) with
  accessFlags := 49
  interfaces := #[]
  cf := some (fileOf pool14 14 #[.nestMembers #[975, 375, 113, 74]] #[{ accessFlags := 2, nameIndex := 5, descriptorIndex := 6, attributes := #[] }, { accessFlags := 9, nameIndex := 302, descriptorIndex := 869, attributes := #[] }, { accessFlags := 10, nameIndex := 345, descriptorIndex := 346, attributes := #[] }, { accessFlags := 9, nameIndex := 139, descriptorIndex := 342, attributes := #[] }, { accessFlags := 10, nameIndex := 341, descriptorIndex := 342, attributes := #[] }] 49 2 #[] #[{ accessFlags := 26, nameIndex := 715, descriptorIndex := 716, attributes := #[] }, { accessFlags := 26, nameIndex := 719, descriptorIndex := 716, attributes := #[] }, { accessFlags := 4120, nameIndex := 445, descriptorIndex := 117, attributes := #[] }])
  fields := #[{ name := "MIN_ARRAY_SORT_GRAN", type := .int, accessFlags := 26, slot := 0, constantValue := 0 }, { name := "INSERTIONSORT_THRESHOLD", type := .int, accessFlags := 26, slot := 1, constantValue := 0 }, { name := "$assertionsDisabled", type := .boolean, accessFlags := 4120, slot := 2, constantValue := 0 }]
  methods := #[k14m0, k14m1, k14m2, k14m3, k14m4]
  instanceTypes := #[]
  staticTypes := #[.int, .int, .boolean]
  resolved := Array.replicate 1029 none
  statics := none }

def pool15 : Array CpInfo := pool [(2, .class_ 4), (1, u "java/lang/Object"), (0, u "<init>"), (0, u "()V"), (1, .class_ 10), (1, u "java/lang/System"), (0, u "allowSecurityManager"), (0, u "I"), (16, u "cons"), (0, u "Ljava/io/Console;"), (77, .class_ 110), (1, u "java/lang/System$CallersHolder"), (43, u "initialErrStream"), (0, u "Ljava/io/PrintStream;"), (19, u "security"), (0, u "Ljava/lang/SecurityManager;"), (31, .class_ 209), (0, u "java/lang/System$1"), (7, u "props"), (0, u "Ljava/util/Properties;"), (2, u "lineSeparator"), (0, u "Ljava/lang/String;"), (96, .class_ 321), (1, u "java/lang/System$LoggerFinder"), (5, .class_ 328), (0, u "java/lang/System$Logger"), (67, u "err"), (2, u "out"), (91, u "notSupportedJnuEncoding"), (15, u "in"), (17, u "initialIn"), (0, u "Ljava/io/InputStream;"), (35, u "bootLayer"), (0, u "Ljava/lang/ModuleLayer;"), (99, .class_ 664), (0, u "java/lang/System$2"), (9, u "NEVER"), (2, u "MAYBE"), (49, u "arraycopy"), (0, u "(Ljava/lang/Object;ILjava/lang/Object;II)V"), (72, .class_ 802), (0, u "java/lang/System$Logger$Level")] 31

def k15m0 : Method := { name := "<init>", desc := "()V", sig := { parameters := [], returnType := none }, accessFlags := 2, code := none }
def k15m1 : Method := { name := "arraycopy", desc := "(Ljava/lang/Object;ILjava/lang/Object;II)V", sig := { parameters := [(.object "java/lang/Object"), .int, (.object "java/lang/Object"), .int, .int], returnType := none }, accessFlags := 265, code := none }
/-- java/lang/System -/
def k15 : Class := { plain "java/lang/System" (some 0) with
  accessFlags := 49
  interfaces := #[]
  cf := some (fileOf pool15 8 #[.nestMembers #[319, 327, 801, 108, 663, 208]] #[{ accessFlags := 2, nameIndex := 5, descriptorIndex := 6, attributes := #[] }, { accessFlags := 265, nameIndex := 727, descriptorIndex := 728, attributes := #[] }] 49 2 #[] #[{ accessFlags := 25, nameIndex := 507, descriptorIndex := 526, attributes := #[] }, { accessFlags := 25, nameIndex := 399, descriptorIndex := 155, attributes := #[] }, { accessFlags := 25, nameIndex := 396, descriptorIndex := 155, attributes := #[] }, { accessFlags := 10, nameIndex := 525, descriptorIndex := 526, attributes := #[] }, { accessFlags := 26, nameIndex := 674, descriptorIndex := 12, attributes := #[] }, { accessFlags := 26, nameIndex := 677, descriptorIndex := 12, attributes := #[] }, { accessFlags := 10, nameIndex := 11, descriptorIndex := 12, attributes := #[] }, { accessFlags := 74, nameIndex := 175, descriptorIndex := 176, attributes := #[] }, { accessFlags := 10, nameIndex := 491, descriptorIndex := 222, attributes := #[] }, { accessFlags := 74, nameIndex := 29, descriptorIndex := 30, attributes := #[] }, { accessFlags := 74, nameIndex := 154, descriptorIndex := 155, attributes := #[] }, { accessFlags := 10, nameIndex := 217, descriptorIndex := 218, attributes := #[] }, { accessFlags := 10, nameIndex := 221, descriptorIndex := 222, attributes := #[] }, { accessFlags := 8, nameIndex := 562, descriptorIndex := 563, attributes := #[] }])
  fields := #[{ name := "in", type := (.object "java/io/InputStream"), accessFlags := 25, slot := 0, constantValue := 0 }, { name := "out", type := (.object "java/io/PrintStream"), accessFlags := 25, slot := 1, constantValue := 0 }, { name := "err", type := (.object "java/io/PrintStream"), accessFlags := 25, slot := 2, constantValue := 0 }, { name := "initialIn", type := (.object "java/io/InputStream"), accessFlags := 10, slot := 3, constantValue := 0 }, { name := "NEVER", type := .int, accessFlags := 26, slot := 4, constantValue := 0 }, { name := "MAYBE", type := .int, accessFlags := 26, slot := 5, constantValue := 0 }, { name := "allowSecurityManager", type := .int, accessFlags := 10, slot := 6, constantValue := 0 }, { name := "security", type := (.object "java/lang/SecurityManager"), accessFlags := 74, slot := 7, constantValue := 0 }, { name := "notSupportedJnuEncoding", type := (.object "java/lang/String"), accessFlags := 10, slot := 8, constantValue := 0 }, { name := "cons", type := (.object "java/io/Console"), accessFlags := 74, slot := 9, constantValue := 0 }, { name := "initialErrStream", type := (.object "java/io/PrintStream"), accessFlags := 74, slot := 10, constantValue := 0 }, { name := "props", type := (.object "java/util/Properties"), accessFlags := 10, slot := 11, constantValue := 0 }, { name := "lineSeparator", type := (.object "java/lang/String"), accessFlags := 10, slot := 12, constantValue := 0 }, { name := "bootLayer", type := (.object "java/lang/ModuleLayer"), accessFlags := 8, slot := 13, constantValue := 0 }]
  methods := #[k15m0, k15m1]
  instanceTypes := #[]
  staticTypes := #[(.object "java/io/InputStream"), (.object "java/io/PrintStream"), (.object "java/io/PrintStream"), (.object "java/io/InputStream"), .int, .int, .int, (.object "java/lang/SecurityManager"), (.object "java/lang/String"), (.object "java/io/Console"), (.object "java/io/PrintStream"), (.object "java/util/Properties"), (.object "java/lang/String"), (.object "java/lang/ModuleLayer")]
  resolved := Array.replicate 834 none
  statics := none }

def pool16 : Array CpInfo := pool [(2, .class_ 4), (1, u "java/lang/Object"), (0, u "<init>"), (0, u "()V"), (1, .class_ 10), (1, u "java/lang/Number"), (2, .class_ 14), (0, u "java/io/Serializable"), (0, u "serialVersionUID"), (0, u "J")] 20

def k16m0 : Method := { name := "<init>", desc := "()V", sig := { parameters := [], returnType := none }, accessFlags := 1, code := none }
/-- java/lang/Number -/
def k16 : Class := { plain "java/lang/Number" (some 0) with
  accessFlags := 1057
  interfaces := #[6]
  cf := some (fileOf pool16 8 #[] #[{ accessFlags := 1, nameIndex := 5, descriptorIndex := 6, attributes := #[] }] 1057 2 #[13] #[{ accessFlags := 26, nameIndex := 15, descriptorIndex := 16, attributes := #[] }])
  fields := #[{ name := "serialVersionUID", type := .long, accessFlags := 26, slot := 0, constantValue := 0 }]
  methods := #[k16m0]
  instanceTypes := #[]
  staticTypes := #[.long]
  resolved := Array.replicate 37 none
  statics := none }

def pool17 : Array CpInfo := pool [(1, .class_ 2), (0, u "java/lang/Long"), (15, .class_ 20), (1, u "java/lang/Integer"), (32, .long 10), (47, u "(J)I"), (18, u "stringSize"), (2, u "getChars"), (0, u "(JI[B)I"), (4, .long 18446744071562067968), (1, .long 100), (1, .fieldref 18 134), (0, .nameAndType 135 136), (0, u "DigitOnes"), (0, u "[B"), (0, .fieldref 18 138), (0, .nameAndType 139 136), (0, u "DigitTens"), (0, .long 18446744073709551606), (94, .class_ 237), (1, u "java/lang/Long$LongCache"), (33, .class_ 272), (0, u "java/lang/Number"), (2, u "value"), (0, u "J"), (84, u "TYPE"), (0, u "Ljava/lang/Class;"), (0, .class_ 364), (0, u "java/lang/Comparable"), (0, .class_ 366), (0, u "java/lang/constant/Constable"), (0, .class_ 368), (0, u "java/lang/constant/ConstantDesc"), (0, u "MIN_VALUE"), (1, u "MAX_VALUE"), (4, u "SIZE"), (0, u "I"), (1, u "BYTES"), (1, u "serialVersionUID")] 142

def k17c0 : Code := { maxStack := 4, maxLocals := 11, code := jdk_35_method_14_code, exceptionTable := #[], attributes := #[] }
def k17m0 : Method := { name := "getChars", desc := "(JI[B)I", sig := { parameters := [.long, .int, (.array .byte)], returnType := some .int }, accessFlags := 8, code := some k17c0 }
def k17c1 : Code := { maxStack := 4, maxLocals := 6, code := jdk_35_method_15_code, exceptionTable := #[], attributes := #[] }
def k17m1 : Method := { name := "stringSize", desc := "(J)I", sig := { parameters := [.long], returnType := some .int }, accessFlags := 8, code := some k17c1 }
/-- java/lang/Long -/
def k17 : Class := { plain "java/lang/Long" (some 16) with
  accessFlags := 49
  interfaces := #[7, 9, 10]
  cf := some (fileOf pool17 1 #[.nestMembers #[235]] #[{ accessFlags := 8, nameIndex := 123, descriptorIndex := 124, attributes := #[] }, { accessFlags := 8, nameIndex := 120, descriptorIndex := 101, attributes := #[] }] 49 271 #[363, 365, 367] #[{ accessFlags := 25, nameIndex := 369, descriptorIndex := 276, attributes := #[] }, { accessFlags := 25, nameIndex := 371, descriptorIndex := 276, attributes := #[] }, { accessFlags := 25, nameIndex := 361, descriptorIndex := 362, attributes := #[] }, { accessFlags := 18, nameIndex := 275, descriptorIndex := 276, attributes := #[] }, { accessFlags := 25, nameIndex := 376, descriptorIndex := 377, attributes := #[] }, { accessFlags := 25, nameIndex := 379, descriptorIndex := 377, attributes := #[] }, { accessFlags := 26, nameIndex := 381, descriptorIndex := 276, attributes := #[] }])
  fields := #[{ name := "MIN_VALUE", type := .long, accessFlags := 25, slot := 0, constantValue := 0 }, { name := "MAX_VALUE", type := .long, accessFlags := 25, slot := 1, constantValue := 0 }, { name := "TYPE", type := (.object "java/lang/Class"), accessFlags := 25, slot := 2, constantValue := 0 }, { name := "value", type := .long, accessFlags := 18, slot := 0, constantValue := 0 }, { name := "SIZE", type := .int, accessFlags := 25, slot := 3, constantValue := 0 }, { name := "BYTES", type := .int, accessFlags := 25, slot := 4, constantValue := 0 }, { name := "serialVersionUID", type := .long, accessFlags := 26, slot := 5, constantValue := 0 }]
  methods := #[k17m0, k17m1]
  instanceTypes := #[.long]
  staticTypes := #[.long, .long, (.object "java/lang/Class"), .int, .int, .long]
  resolved := Array.replicate 524 none
  statics := none }

def pool18 : Array CpInfo := pool [(1, .class_ 2), (0, u "java/lang/Integer"), (16, u "digits"), (0, u "[C"), (64, u "DigitOnes"), (0, u "[B"), (2, u "DigitTens"), (99, .class_ 190), (0, u "java/lang/Integer$IntegerCache"), (3, u "I"), (8, .class_ 204), (0, u "java/lang/Number"), (2, u "value"), (94, u "TYPE"), (0, u "Ljava/lang/Class;"), (0, .class_ 305), (0, u "java/lang/Comparable"), (0, .class_ 307), (0, u "java/lang/constant/Constable"), (0, .class_ 309), (0, u "java/lang/constant/ConstantDesc"), (0, u "MIN_VALUE"), (1, u "MAX_VALUE"), (3, u "SIZE"), (1, u "BYTES"), (1, u "serialVersionUID"), (0, u "J")] 131

/-- java/lang/Integer -/
def k18 : Class := { plain "java/lang/Integer" (some 16) with
  accessFlags := 49
  interfaces := #[7, 9, 10]
  cf := some (fileOf pool18 1 #[.nestMembers #[189]] #[] 49 203 #[304, 306, 308] #[{ accessFlags := 25, nameIndex := 310, descriptorIndex := 194, attributes := #[] }, { accessFlags := 25, nameIndex := 312, descriptorIndex := 194, attributes := #[] }, { accessFlags := 25, nameIndex := 302, descriptorIndex := 303, attributes := #[] }, { accessFlags := 24, nameIndex := 19, descriptorIndex := 20, attributes := #[] }, { accessFlags := 24, nameIndex := 89, descriptorIndex := 86, attributes := #[] }, { accessFlags := 24, nameIndex := 85, descriptorIndex := 86, attributes := #[] }, { accessFlags := 18, nameIndex := 207, descriptorIndex := 194, attributes := #[] }, { accessFlags := 25, nameIndex := 316, descriptorIndex := 194, attributes := #[] }, { accessFlags := 25, nameIndex := 318, descriptorIndex := 194, attributes := #[] }, { accessFlags := 26, nameIndex := 320, descriptorIndex := 321, attributes := #[] }])
  fields := #[{ name := "MIN_VALUE", type := .int, accessFlags := 25, slot := 0, constantValue := 0 }, { name := "MAX_VALUE", type := .int, accessFlags := 25, slot := 1, constantValue := 0 }, { name := "TYPE", type := (.object "java/lang/Class"), accessFlags := 25, slot := 2, constantValue := 0 }, { name := "digits", type := (.array .char), accessFlags := 24, slot := 3, constantValue := 0 }, { name := "DigitTens", type := (.array .byte), accessFlags := 24, slot := 4, constantValue := 0 }, { name := "DigitOnes", type := (.array .byte), accessFlags := 24, slot := 5, constantValue := 0 }, { name := "value", type := .int, accessFlags := 18, slot := 0, constantValue := 0 }, { name := "SIZE", type := .int, accessFlags := 25, slot := 6, constantValue := 0 }, { name := "BYTES", type := .int, accessFlags := 25, slot := 7, constantValue := 0 }, { name := "serialVersionUID", type := .long, accessFlags := 26, slot := 8, constantValue := 0 }]
  methods := #[]
  instanceTypes := #[.int]
  staticTypes := #[.int, .int, (.object "java/lang/Class"), (.array .char), (.array .byte), (.array .byte), .int, .int, .long]
  resolved := Array.replicate 453 none
  statics := some 1 }

def pool19 : Array CpInfo := pool [(4, .class_ 6), (1, u "java/lang/Object"), (0, u "<init>"), (0, u "()V"), (5, .class_ 16), (1, u "java/lang/StringLatin1"), (104, u "$assertionsDisabled"), (0, u "Z"), (98, .class_ 223), (1, u "java/lang/StringLatin1$LinesSpliterator"), (57, u "equals"), (0, u "([B[B)Z"), (107, .class_ 391), (0, u "java/lang/StringLatin1$CharsSpliterator")] 3

def k19m0 : Method := { name := "<init>", desc := "()V", sig := { parameters := [], returnType := none }, accessFlags := 0, code := none }
def k19c1 : Code := { maxStack := 3, maxLocals := 3, code := jdk_43_method_13_code, exceptionTable := #[], attributes := #[] }
def k19m1 : Method := { name := "equals", desc := "([B[B)Z", sig := { parameters := [(.array .byte), (.array .byte)], returnType := some .boolean }, accessFlags := 9, code := some k19c1 }
/-- java/lang/StringLatin1 -/
def k19 : Class := { plain "java/lang/StringLatin1" (some 0) with
  accessFlags := 48
  interfaces := #[]
  cf := some (fileOf pool19 14 #[.nestMembers #[390, 221]] #[{ accessFlags := 0, nameIndex := 7, descriptorIndex := 8, attributes := #[] }, { accessFlags := 9, nameIndex := 281, descriptorIndex := 282, attributes := #[] }] 48 4 #[] #[{ accessFlags := 4120, nameIndex := 121, descriptorIndex := 122, attributes := #[] }])
  fields := #[{ name := "$assertionsDisabled", type := .boolean, accessFlags := 4120, slot := 0, constantValue := 0 }]
  methods := #[k19m0, k19m1]
  instanceTypes := #[]
  staticTypes := #[.boolean]
  resolved := Array.replicate 395 none
  statics := none }

def pool20 : Array CpInfo := pool [(6, .class_ 8), (1, u "java/lang/Object"), (0, u "<init>"), (0, u "()V"), (1, .class_ 14), (1, u "java/lang/StringUTF16"), (31, u "$assertionsDisabled"), (0, u "Z"), (13, u "HI_BYTE_SHIFT"), (0, u "I"), (2, u "LO_BYTE_SHIFT"), (49, .methodref 12 116), (0, .nameAndType 117 118), (0, u "compress"), (0, u "([CI[BII)I"), (3, u "([CII)[B"), (138, u "coderFromArrayLen"), (0, u "([BI)B"), (106, .class_ 371), (1, u "java/lang/StringUTF16$LinesSpliterator"), (58, u "MAX_LENGTH"), (196, .class_ 628), (0, u "java/lang/StringUTF16$CodePointsSpliterator"), (0, .class_ 630), (0, u "java/lang/StringUTF16$CharsSpliterator")] 4

def k20m0 : Method := { name := "<init>", desc := "()V", sig := { parameters := [], returnType := none }, accessFlags := 0, code := none }
def k20c1 : Code := { maxStack := 2, maxLocals := 2, code := jdk_52_method_15_code, exceptionTable := #[], attributes := #[] }
def k20m1 : Method := { name := "coderFromArrayLen", desc := "([BI)B", sig := { parameters := [(.array .byte), .int], returnType := some .byte }, accessFlags := 8, code := some k20c1 }
def k20c2 : Code := { maxStack := 5, maxLocals := 6, code := jdk_52_method_16_code, exceptionTable := #[], attributes := #[] }
def k20m2 : Method := { name := "compress", desc := "([CII)[B", sig := { parameters := [(.array .char), .int, .int], returnType := some (.array .byte) }, accessFlags := 9, code := some k20c2 }
def k20c3 : Code := { maxStack := 3, maxLocals := 7, code := jdk_52_method_21_code, exceptionTable := #[], attributes := #[] }
def k20m3 : Method := { name := "compress", desc := "([CI[BII)I", sig := { parameters := [(.array .char), .int, (.array .byte), .int, .int], returnType := some .int }, accessFlags := 9, code := some k20c3 }
/-- java/lang/StringUTF16 -/
def k20 : Class := { plain "java/lang/StringUTF16" (some 0) with
  accessFlags := 48
  interfaces := #[]
  cf := some (fileOf pool20 12 #[.nestMembers #[627, 629, 369]] #[{ accessFlags := 0, nameIndex := 9, descriptorIndex := 10, attributes := #[] }, { accessFlags := 8, nameIndex := 261, descriptorIndex := 262, attributes := #[] }, { accessFlags := 9, nameIndex := 117, descriptorIndex := 122, attributes := #[] }, { accessFlags := 9, nameIndex := 117, descriptorIndex := 118, attributes := #[] }] 48 6 #[] #[{ accessFlags := 26, nameIndex := 61, descriptorIndex := 62, attributes := #[] }, { accessFlags := 26, nameIndex := 65, descriptorIndex := 62, attributes := #[] }, { accessFlags := 24, nameIndex := 430, descriptorIndex := 62, attributes := #[] }, { accessFlags := 4120, nameIndex := 46, descriptorIndex := 47, attributes := #[] }])
  fields := #[{ name := "HI_BYTE_SHIFT", type := .int, accessFlags := 26, slot := 0, constantValue := 0 }, { name := "LO_BYTE_SHIFT", type := .int, accessFlags := 26, slot := 1, constantValue := 0 }, { name := "MAX_LENGTH", type := .int, accessFlags := 24, slot := 2, constantValue := 0 }, { name := "$assertionsDisabled", type := .boolean, accessFlags := 4120, slot := 3, constantValue := 0 }]
  methods := #[k20m0, k20m1, k20m2, k20m3]
  instanceTypes := #[]
  staticTypes := #[.int, .int, .int, .boolean]
  resolved := Array.replicate 635 none
  statics := none }

def pool21 : Array CpInfo := pool [(1, .class_ 2), (0, u "java/lang/Cloneable"), (0, .class_ 4), (0, u "java/lang/Object")] 2

/-- java/lang/Cloneable -/
def k21 : Class := { plain "java/lang/Cloneable" (some 0) with
  accessFlags := 1537
  interfaces := #[]
  cf := some (fileOf pool21 1 #[] #[] 1537 3 #[] #[])
  fields := #[]
  methods := #[]
  instanceTypes := #[]
  staticTypes := #[]
  resolved := Array.replicate 7 none
  statics := none }

def pool22 : Array CpInfo := pool [(2, .class_ 4), (1, u "java/lang/Object"), (0, u "<init>"), (0, u "()V"), (17, .class_ 26), (1, u "jdk/internal/util/Preconditions"), (28, .class_ 56), (0, u "jdk/internal/util/Preconditions$4"), (57, .class_ 115), (0, u "jdk/internal/util/Preconditions$1"), (7, u "SIOOBE_FORMATTER"), (0, u "Ljava/util/function/BiFunction;"), (0, .class_ 126), (0, u "jdk/internal/util/Preconditions$2"), (3, u "AIOOBE_FORMATTER"), (0, .class_ 132), (0, u "jdk/internal/util/Preconditions$3"), (3, u "IOOBE_FORMATTER")] 57

def k22m0 : Method := { name := "<init>", desc := "()V", sig := { parameters := [], returnType := none }, accessFlags := 1, code := none }
/-- jdk/internal/util/Preconditions -/
def k22 : Class := { plain "jdk/internal/util/Preconditions" (some 0) with
  accessFlags := 33
  interfaces := #[]
  cf := some (fileOf pool22 24 #[.nestMembers #[55, 131, 125, 114]] #[{ accessFlags := 1, nameIndex := 5, descriptorIndex := 6, attributes := #[] }] 33 2 #[] #[{ accessFlags := 25, nameIndex := 123, descriptorIndex := 124, attributes := #[] }, { accessFlags := 25, nameIndex := 130, descriptorIndex := 124, attributes := #[] }, { accessFlags := 25, nameIndex := 136, descriptorIndex := 124, attributes := #[] }])
  fields := #[{ name := "SIOOBE_FORMATTER", type := (.object "java/util/function/BiFunction"), accessFlags := 25, slot := 0, constantValue := 0 }, { name := "AIOOBE_FORMATTER", type := (.object "java/util/function/BiFunction"), accessFlags := 25, slot := 1, constantValue := 0 }, { name := "IOOBE_FORMATTER", type := (.object "java/util/function/BiFunction"), accessFlags := 25, slot := 2, constantValue := 0 }]
  methods := #[k22m0]
  instanceTypes := #[]
  staticTypes := #[(.object "java/util/function/BiFunction"), (.object "java/util/function/BiFunction"), (.object "java/util/function/BiFunction")]
  resolved := Array.replicate 194 none
  statics := some 2 }

/-- the primitive byte -/
def k23 : Class := { plain "byte" none with kind := .primitive 'B', accessFlags := 0x411 }
/-- [B -/
def k24 : Class := { plain "[B" (some 0) with kind := .array 23 .byte, interfaces := #[21, 6], accessFlags := 1041 }

/-- the primitive char -/
def k25 : Class := { plain "char" none with kind := .primitive 'C', accessFlags := 0x411 }
/-- [C -/
def k26 : Class := { plain "[C" (some 0) with kind := .array 25 .char, interfaces := #[21, 6], accessFlags := 1041 }

/-- the primitive int -/
def k27 : Class := { plain "int" none with kind := .primitive 'I', accessFlags := 0x411 }
/-- [I -/
def k28 : Class := { plain "[I" (some 0) with kind := .array 27 .int, interfaces := #[21, 6], accessFlags := 1041 }

def heap : Heap := #[{ cls := 11, slots := #[.long 0, .int 1, .null, .int 0, .null, .int 0, .int 0], vm := .statics 11 },
  { cls := 18, slots := #[.int 0, .int 0, .null, .null, .ref 4, .ref 3, .int 0, .int 0, .long 0], vm := .statics 18 },
  { cls := 22, slots := #[.null, .null, .null], vm := .statics 22 },
  { cls := 24, slots := #[.int 48, .int 49, .int 50, .int 51, .int 52, .int 53, .int 54, .int 55, .int 56, .int 57, .int 48, .int 49, .int 50, .int 51, .int 52, .int 53, .int 54, .int 55, .int 56, .int 57, .int 48, .int 49, .int 50, .int 51, .int 52, .int 53, .int 54, .int 55, .int 56, .int 57, .int 48, .int 49, .int 50, .int 51, .int 52, .int 53, .int 54, .int 55, .int 56, .int 57, .int 48, .int 49, .int 50, .int 51, .int 52, .int 53, .int 54, .int 55, .int 56, .int 57, .int 48, .int 49, .int 50, .int 51, .int 52, .int 53, .int 54, .int 55, .int 56, .int 57, .int 48, .int 49, .int 50, .int 51, .int 52, .int 53, .int 54, .int 55, .int 56, .int 57, .int 48, .int 49, .int 50, .int 51, .int 52, .int 53, .int 54, .int 55, .int 56, .int 57, .int 48, .int 49, .int 50, .int 51, .int 52, .int 53, .int 54, .int 55, .int 56, .int 57, .int 48, .int 49, .int 50, .int 51, .int 52, .int 53, .int 54, .int 55, .int 56, .int 57], vm := .none },
  { cls := 24, slots := #[.int 48, .int 48, .int 48, .int 48, .int 48, .int 48, .int 48, .int 48, .int 48, .int 48, .int 49, .int 49, .int 49, .int 49, .int 49, .int 49, .int 49, .int 49, .int 49, .int 49, .int 50, .int 50, .int 50, .int 50, .int 50, .int 50, .int 50, .int 50, .int 50, .int 50, .int 51, .int 51, .int 51, .int 51, .int 51, .int 51, .int 51, .int 51, .int 51, .int 51, .int 52, .int 52, .int 52, .int 52, .int 52, .int 52, .int 52, .int 52, .int 52, .int 52, .int 53, .int 53, .int 53, .int 53, .int 53, .int 53, .int 53, .int 53, .int 53, .int 53, .int 54, .int 54, .int 54, .int 54, .int 54, .int 54, .int 54, .int 54, .int 54, .int 54, .int 55, .int 55, .int 55, .int 55, .int 55, .int 55, .int 55, .int 55, .int 55, .int 55, .int 56, .int 56, .int 56, .int 56, .int 56, .int 56, .int 56, .int 56, .int 56, .int 56, .int 57, .int 57, .int 57, .int 57, .int 57, .int 57, .int 57, .int 57, .int 57, .int 57], vm := .none }]
def classes : Array Class := #[k0, k1, k2, k3, k4, k5, k6, k7, k8, k9, k10, k11, k12, k13, k14, k15, k16, k17, k18, k19, k20, k21, k22, k23, k24, k25, k26, k27, k28]
def interned : List (Array UInt16 × Addr) := []
def slotsUsed : Nat := 219
def theMethod : MethodId := ⟨1, 3⟩
def args0 : Array Value := #[.long 5, .long 7, .long 6, .long 9, .long 11, .int 3]
def aboutOver (below : List Frame) : State where
  vm := { classes := classes, interned := interned.toArray }
  heap := heap
  slotsUsed := slotsUsed
  threads := #[{ frames := .invoking theMethod args0 :: below }]
def below0 : List Frame := [.native { method := ⟨0, 0⟩, args := #[] }]
def about1 : State := aboutOver below0
def p0 : Program := .bare "" "" ""
def e0 : Env := launch0.env 0 0 0
theorem w_frames : about1.frames = Frame.invoking theMethod args0 :: below0 := rfl
set_option maxRecDepth 65536 in
theorem w_args : argsFit about1.vm theMethod args0 = true := by decide +kernel
set_option maxRecDepth 65536 in
theorem w_heap : heapFits about1 = true := by decide +kernel
set_option maxRecDepth 65536 in
theorem w_runnable : about1.curStatus? = some .runnable := by decide +kernel
set_option maxRecDepth 65536 in
theorem w_alone : about1.alone = true := by decide +kernel
set_option maxRecDepth 65536 in
theorem w_named : about1.methodNamed? x = some theMethod := by decide +kernel
set_option maxRecDepth 65536 in
theorem w_hears : about1.hears theMethod below0 = true := by decide +kernel
set_option maxRecDepth 65536 in
theorem w_ripe : about1.ripe theMethod args0 below0 = true := by decide +kernel
theorem w_running : about1.status = .running := rfl
set_option maxRecDepth 65536 in
theorem w_room : about1.hasRoom e0.platform room_1 = true :=
  launch0.hasRoom_least _ room_1 (by decide +kernel) (by decide +kernel) (by decide +kernel) (by decide +kernel) (by decide +kernel) (by decide +kernel)
theorem allAtoms_all (ts : List Jvm.Cond) (a : Array Jvm.Value) (st : Jvm.State) : (allAtoms ts).before a st = ts.all (fun c => c.before a st) := by
  induction ts with
  | nil => rfl
  | cons c t ih =>
    show (Jvm.Cond.and c (allAtoms t)).before a st = _
    rw [Jvm.Cond.before_and, ih, List.all_cons]
def words1 : List Jvm.Cond := Jvm.Cond.code x code maxLocals ret :: tables_1
/-- a 'code' word, met by the world's own term for the bytes: nothing is compared byte by byte -/
theorem code_word {y : MethodName} {bytes : ByteArray} {mx : Nat} {rt : Option FieldType} {a : Array Value} {s : State} {m : MethodId} {meth : Method} {c : Code} (h1 : s.methodNamed? y = some m) (h2 : s.vm.method? m = some meth) (h3 : meth.code = some c) (h4 : c.code = bytes)
    (h5 : (c.maxLocals == mx && c.exceptionTable.isEmpty && decide (c.maxStack ≤ mostOperands) && decide (meth.sig.returnType = rt) && !meth.locks && decide (parseMethodDescriptor y.desc = some meth.sig)) = true) : (Jvm.Cond.code y bytes mx rt).before a s = true := by
  simp only [Bool.and_eq_true, beq_iff_eq, Bool.not_eq_true', decide_eq_true_eq] at h5
  obtain ⟨⟨⟨⟨⟨g1, g2⟩, g3⟩, g4⟩, g5⟩, g6⟩ := h5
  simp [Cond.before, Cond.holds, Cond.value, h1, h2, h3, h4, g1, g2, g3, g4, g5, g6]
def isCode : Jvm.Cond → Bool
  | .code _ _ _ _ => true
  | _ => false
theorem all_split {L : List Jvm.Cond} {P : Jvm.Cond → Bool} (h1 : L.all (fun c => isCode c || P c) = true) (h2 : ∀ c ∈ L.filter isCode, P c = true) : L.all P = true := by
  refine List.all_eq_true.mpr fun c hc => ?_
  have h := List.all_eq_true.mp h1 c hc
  rcases Bool.eq_false_or_eq_true (isCode c) with hi | hi
  · exact h2 c (List.mem_filter.mpr ⟨hc, hi⟩)
  · simpa [hi] using h
set_option maxRecDepth 65536 in
theorem w_c0 : (Jvm.Cond.code x code maxLocals ret).before args0 about1 = true := code_word (m := ⟨1, 3⟩) (meth := k1m3) (c := k1c3) (by decide +kernel) rfl rfl rfl (by decide +kernel)
set_option maxRecDepth 65536 in
theorem w_c1 : (Jvm.Cond.code ({ cls := "com/example/libtardy/libtardy/QueueCounts", name := "<init>", desc := "(JJJJ)V" } : Jvm.MethodName) prog_5_method_1_code (9 : Nat) (Option.none : Option Jvm.ClassFile.FieldType)).before args0 about1 = true := code_word (m := ⟨2, 0⟩) (meth := k2m0) (c := k2c0) (by decide +kernel) rfl rfl rfl (by decide +kernel)
set_option maxRecDepth 65536 in
theorem w_c2 : (Jvm.Cond.code ({ cls := "java/lang/Object", name := "<init>", desc := "()V" } : Jvm.MethodName) object_method_1_code (1 : Nat) (Option.none : Option Jvm.ClassFile.FieldType)).before args0 about1 = true := code_word (m := ⟨0, 0⟩) (meth := k0m0) (c := k0c0) (by decide +kernel) rfl rfl rfl (by decide +kernel)
set_option maxRecDepth 65536 in
theorem w_c3 : (Jvm.Cond.code ({ cls := "com/example/libtardy/libtardy/QueueCounts", name := "toString", desc := "()Ljava/lang/String;" } : Jvm.MethodName) prog_5_method_8_code (1 : Nat) (Option.some (Jvm.ClassFile.FieldType.object "java/lang/String"))).before args0 about1 = true := code_word (m := ⟨2, 1⟩) (meth := k2m1) (c := k2c1) (by decide +kernel) rfl rfl rfl (by decide +kernel)
set_option maxRecDepth 65536 in
theorem w_c4 : (Jvm.Cond.code ({ cls := "java/lang/StringBuilder", name := "<init>", desc := "()V" } : Jvm.MethodName) jdk_67_method_1_code (1 : Nat) (Option.none : Option Jvm.ClassFile.FieldType)).before args0 about1 = true := code_word (m := ⟨8, 0⟩) (meth := k8m0) (c := k8c0) (by decide +kernel) rfl rfl rfl (by decide +kernel)
set_option maxRecDepth 65536 in
theorem w_c5 : (Jvm.Cond.code ({ cls := "java/lang/AbstractStringBuilder", name := "<init>", desc := "(I)V" } : Jvm.MethodName) jdk_68_method_2_code (2 : Nat) (Option.none : Option Jvm.ClassFile.FieldType)).before args0 about1 = true := code_word (m := ⟨5, 1⟩) (meth := k5m1) (c := k5c1) (by decide +kernel) rfl rfl rfl (by decide +kernel)
set_option maxRecDepth 65536 in
theorem w_c6 : (Jvm.Cond.code ({ cls := "java/lang/StringBuilder", name := "append", desc := "(Ljava/lang/String;)Ljava/lang/StringBuilder;" } : Jvm.MethodName) jdk_67_method_7_code (2 : Nat) (Option.some (Jvm.ClassFile.FieldType.object "java/lang/StringBuilder"))).before args0 about1 = true := code_word (m := ⟨8, 1⟩) (meth := k8m1) (c := k8c1) (by decide +kernel) rfl rfl rfl (by decide +kernel)
set_option maxRecDepth 65536 in
theorem w_c7 : (Jvm.Cond.code ({ cls := "java/lang/AbstractStringBuilder", name := "append", desc := "(Ljava/lang/String;)Ljava/lang/AbstractStringBuilder;" } : Jvm.MethodName) jdk_68_method_22_code (3 : Nat) (Option.some (Jvm.ClassFile.FieldType.object "java/lang/AbstractStringBuilder"))).before args0 about1 = true := code_word (m := ⟨5, 5⟩) (meth := k5m5) (c := k5c5) (by decide +kernel) rfl rfl rfl (by decide +kernel)
set_option maxRecDepth 65536 in
theorem w_c8 : (Jvm.Cond.code ({ cls := "java/lang/String", name := "length", desc := "()I" } : Jvm.MethodName) jdk_42_method_54_code (1 : Nat) (Option.some Jvm.ClassFile.FieldType.int)).before args0 about1 = true := code_word (m := ⟨11, 3⟩) (meth := k11m3) (c := k11c3) (by decide +kernel) rfl rfl rfl (by decide +kernel)
set_option maxRecDepth 65536 in
theorem w_c9 : (Jvm.Cond.code ({ cls := "java/lang/String", name := "coder", desc := "()B" } : Jvm.MethodName) jdk_42_method_152_code (1 : Nat) (Option.some Jvm.ClassFile.FieldType.byte)).before args0 about1 = true := code_word (m := ⟨11, 8⟩) (meth := k11m8) (c := k11c8) (by decide +kernel) rfl rfl rfl (by decide +kernel)
set_option maxRecDepth 65536 in
theorem w_c10 : (Jvm.Cond.code ({ cls := "java/lang/AbstractStringBuilder", name := "ensureCapacityInternal", desc := "(I)V" } : Jvm.MethodName) jdk_68_method_9_code (3 : Nat) (Option.none : Option Jvm.ClassFile.FieldType)).before args0 about1 = true := code_word (m := ⟨5, 3⟩) (meth := k5m3) (c := k5c3) (by decide +kernel) rfl rfl rfl (by decide +kernel)
set_option maxRecDepth 65536 in
theorem w_c11 : (Jvm.Cond.code ({ cls := "java/lang/AbstractStringBuilder", name := "newCapacity", desc := "(I)I" } : Jvm.MethodName) jdk_68_method_10_code (6 : Nat) (Option.some Jvm.ClassFile.FieldType.int)).before args0 about1 = true := code_word (m := ⟨5, 4⟩) (meth := k5m4) (c := k5c4) (by decide +kernel) rfl rfl rfl (by decide +kernel)
set_option maxRecDepth 65536 in
theorem w_c12 : (Jvm.Cond.code ({ cls := "jdk/internal/util/ArraysSupport", name := "newLength", desc := "(III)I" } : Jvm.MethodName) jdk_48_method_27_code (4 : Nat) (Option.some Jvm.ClassFile.FieldType.int)).before args0 about1 = true := code_word (m := ⟨12, 1⟩) (meth := k12m1) (c := k12c1) (by decide +kernel) rfl rfl rfl (by decide +kernel)
set_option maxRecDepth 65536 in
theorem w_c13 : (Jvm.Cond.code ({ cls := "java/lang/Math", name := "max", desc := "(II)I" } : Jvm.MethodName) jdk_29_method_65_code (2 : Nat) (Option.some Jvm.ClassFile.FieldType.int)).before args0 about1 = true := code_word (m := ⟨13, 1⟩) (meth := k13m1) (c := k13c1) (by decide +kernel) rfl rfl rfl (by decide +kernel)
set_option maxRecDepth 65536 in
theorem w_c14 : (Jvm.Cond.code ({ cls := "java/util/Arrays", name := "copyOf", desc := "([BI)[B" } : Jvm.MethodName) jdk_65_method_121_code (3 : Nat) (Option.some (Jvm.ClassFile.FieldType.array Jvm.ClassFile.FieldType.byte))).before args0 about1 = true := code_word (m := ⟨14, 1⟩) (meth := k14m1) (c := k14c1) (by decide +kernel) rfl rfl rfl (by decide +kernel)
set_option maxRecDepth 65536 in
theorem w_c15 : (Jvm.Cond.code ({ cls := "java/lang/Math", name := "min", desc := "(II)I" } : Jvm.MethodName) jdk_29_method_69_code (2 : Nat) (Option.some Jvm.ClassFile.FieldType.int)).before args0 about1 = true := code_word (m := ⟨13, 2⟩) (meth := k13m2) (c := k13c2) (by decide +kernel) rfl rfl rfl (by decide +kernel)
set_option maxRecDepth 65536 in
theorem w_c16 : (Jvm.Cond.code ({ cls := "java/lang/AbstractStringBuilder", name := "putStringAt", desc := "(ILjava/lang/String;)V" } : Jvm.MethodName) jdk_68_method_73_code (3 : Nat) (Option.none : Option Jvm.ClassFile.FieldType)).before args0 about1 = true := code_word (m := ⟨5, 10⟩) (meth := k5m10) (c := k5c10) (by decide +kernel) rfl rfl rfl (by decide +kernel)
set_option maxRecDepth 65536 in
theorem w_c17 : (Jvm.Cond.code ({ cls := "java/lang/AbstractStringBuilder", name := "inflateIfNeededFor", desc := "(Ljava/lang/String;)V" } : Jvm.MethodName) jdk_68_method_71_code (2 : Nat) (Option.none : Option Jvm.ClassFile.FieldType)).before args0 about1 = true := code_word (m := ⟨5, 9⟩) (meth := k5m9) (c := k5c9) (by decide +kernel) rfl rfl rfl (by decide +kernel)
set_option maxRecDepth 65536 in
theorem w_c18 : (Jvm.Cond.code ({ cls := "java/lang/String", name := "getBytes", desc := "([BIB)V" } : Jvm.MethodName) jdk_42_method_147_code (4 : Nat) (Option.none : Option Jvm.ClassFile.FieldType)).before args0 about1 = true := code_word (m := ⟨11, 5⟩) (meth := k11m5) (c := k11c5) (by decide +kernel) rfl rfl rfl (by decide +kernel)
set_option maxRecDepth 65536 in
theorem w_c19 : (Jvm.Cond.code ({ cls := "java/lang/StringBuilder", name := "append", desc := "(J)Ljava/lang/StringBuilder;" } : Jvm.MethodName) jdk_67_method_16_code (3 : Nat) (Option.some (Jvm.ClassFile.FieldType.object "java/lang/StringBuilder"))).before args0 about1 = true := code_word (m := ⟨8, 2⟩) (meth := k8m2) (c := k8c2) (by decide +kernel) rfl rfl rfl (by decide +kernel)
set_option maxRecDepth 65536 in
theorem w_c20 : (Jvm.Cond.code ({ cls := "java/lang/AbstractStringBuilder", name := "append", desc := "(J)Ljava/lang/AbstractStringBuilder;" } : Jvm.MethodName) jdk_68_method_33_code (5 : Nat) (Option.some (Jvm.ClassFile.FieldType.object "java/lang/AbstractStringBuilder"))).before args0 about1 = true := code_word (m := ⟨5, 6⟩) (meth := k5m6) (c := k5c6) (by decide +kernel) rfl rfl rfl (by decide +kernel)
set_option maxRecDepth 65536 in
theorem w_c21 : (Jvm.Cond.code ({ cls := "java/lang/Long", name := "stringSize", desc := "(J)I" } : Jvm.MethodName) jdk_35_method_15_code (6 : Nat) (Option.some Jvm.ClassFile.FieldType.int)).before args0 about1 = true := code_word (m := ⟨17, 1⟩) (meth := k17m1) (c := k17c1) (by decide +kernel) rfl rfl rfl (by decide +kernel)
set_option maxRecDepth 65536 in
theorem w_c22 : (Jvm.Cond.code ({ cls := "java/lang/AbstractStringBuilder", name := "isLatin1", desc := "()Z" } : Jvm.MethodName) jdk_68_method_68_code (1 : Nat) (Option.some Jvm.ClassFile.FieldType.boolean)).before args0 about1 = true := code_word (m := ⟨5, 8⟩) (meth := k5m8) (c := k5c8) (by decide +kernel) rfl rfl rfl (by decide +kernel)
set_option maxRecDepth 65536 in
theorem w_c23 : (Jvm.Cond.code ({ cls := "java/lang/Long", name := "getChars", desc := "(JI[B)I" } : Jvm.MethodName) jdk_35_method_14_code (11 : Nat) (Option.some Jvm.ClassFile.FieldType.int)).before args0 about1 = true := code_word (m := ⟨17, 0⟩) (meth := k17m0) (c := k17c0) (by decide +kernel) rfl rfl rfl (by decide +kernel)
set_option maxRecDepth 65536 in
theorem w_c24 : (Jvm.Cond.code ({ cls := "java/lang/StringBuilder", name := "toString", desc := "()Ljava/lang/String;" } : Jvm.MethodName) jdk_67_method_42_code (1 : Nat) (Option.some (Jvm.ClassFile.FieldType.object "java/lang/String"))).before args0 about1 = true := code_word (m := ⟨8, 3⟩) (meth := k8m3) (c := k8c3) (by decide +kernel) rfl rfl rfl (by decide +kernel)
set_option maxRecDepth 65536 in
theorem w_c25 : (Jvm.Cond.code ({ cls := "java/lang/String", name := "<init>", desc := "(Ljava/lang/StringBuilder;)V" } : Jvm.MethodName) jdk_42_method_53_code (2 : Nat) (Option.none : Option Jvm.ClassFile.FieldType)).before args0 about1 = true := code_word (m := ⟨11, 2⟩) (meth := k11m2) (c := k11c2) (by decide +kernel) rfl rfl rfl (by decide +kernel)
set_option maxRecDepth 65536 in
theorem w_c26 : (Jvm.Cond.code ({ cls := "java/lang/String", name := "<init>", desc := "(Ljava/lang/AbstractStringBuilder;Ljava/lang/Void;)V" } : Jvm.MethodName) jdk_42_method_150_code (5 : Nat) (Option.none : Option Jvm.ClassFile.FieldType)).before args0 about1 = true := code_word (m := ⟨11, 7⟩) (meth := k11m7) (c := k11c7) (by decide +kernel) rfl rfl rfl (by decide +kernel)
set_option maxRecDepth 65536 in
theorem w_c27 : (Jvm.Cond.code ({ cls := "java/lang/AbstractStringBuilder", name := "getValue", desc := "()[B" } : Jvm.MethodName) jdk_68_method_64_code (1 : Nat) (Option.some (Jvm.ClassFile.FieldType.array Jvm.ClassFile.FieldType.byte))).before args0 about1 = true := code_word (m := ⟨5, 7⟩) (meth := k5m7) (c := k5c7) (by decide +kernel) rfl rfl rfl (by decide +kernel)
set_option maxRecDepth 65536 in
theorem w_c28 : (Jvm.Cond.code ({ cls := "java/lang/StringBuilder", name := "length", desc := "()I" } : Jvm.MethodName) jdk_67_method_93_code (1 : Nat) (Option.some Jvm.ClassFile.FieldType.int)).before args0 about1 = true := code_word (m := ⟨8, 4⟩) (meth := k8m4) (c := k8c4) (by decide +kernel) rfl rfl rfl (by decide +kernel)
set_option maxRecDepth 65536 in
theorem w_c29 : (Jvm.Cond.code ({ cls := "java/lang/AbstractStringBuilder", name := "length", desc := "()I" } : Jvm.MethodName) jdk_68_method_6_code (1 : Nat) (Option.some Jvm.ClassFile.FieldType.int)).before args0 about1 = true := code_word (m := ⟨5, 2⟩) (meth := k5m2) (c := k5c2) (by decide +kernel) rfl rfl rfl (by decide +kernel)
set_option maxRecDepth 65536 in
theorem w_c30 : (Jvm.Cond.code ({ cls := "java/util/Arrays", name := "copyOfRange", desc := "([BII)[B" } : Jvm.MethodName) jdk_65_method_132_code (3 : Nat) (Option.some (Jvm.ClassFile.FieldType.array Jvm.ClassFile.FieldType.byte))).before args0 about1 = true := code_word (m := ⟨14, 3⟩) (meth := k14m3) (c := k14c3) (by decide +kernel) rfl rfl rfl (by decide +kernel)
set_option maxRecDepth 65536 in
theorem w_c31 : (Jvm.Cond.code ({ cls := "java/util/Arrays", name := "copyOfRangeByte", desc := "([BII)[B" } : Jvm.MethodName) jdk_65_method_133_code (5 : Nat) (Option.some (Jvm.ClassFile.FieldType.array Jvm.ClassFile.FieldType.byte))).before args0 about1 = true := code_word (m := ⟨14, 4⟩) (meth := k14m4) (c := k14c4) (by decide +kernel) rfl rfl rfl (by decide +kernel)
set_option maxRecDepth 65536 in
theorem w_c32 : (Jvm.Cond.code ({ cls := "java/util/Arrays", name := "checkLength", desc := "(II)V" } : Jvm.MethodName) jdk_65_method_131_code (2 : Nat) (Option.none : Option Jvm.ClassFile.FieldType)).before args0 about1 = true := code_word (m := ⟨14, 2⟩) (meth := k14m2) (c := k14c2) (by decide +kernel) rfl rfl rfl (by decide +kernel)
set_option maxRecDepth 65536 in
theorem w_c33 : (Jvm.Cond.code ({ cls := "java/lang/String", name := "equals", desc := "(Ljava/lang/Object;)Z" } : Jvm.MethodName) jdk_42_method_66_code (3 : Nat) (Option.some Jvm.ClassFile.FieldType.boolean)).before args0 about1 = true := code_word (m := ⟨11, 4⟩) (meth := k11m4) (c := k11c4) (by decide +kernel) rfl rfl rfl (by decide +kernel)
set_option maxRecDepth 65536 in
theorem w_c34 : (Jvm.Cond.code ({ cls := "java/lang/StringLatin1", name := "equals", desc := "([B[B)Z" } : Jvm.MethodName) jdk_43_method_13_code (3 : Nat) (Option.some Jvm.ClassFile.FieldType.boolean)).before args0 about1 = true := code_word (m := ⟨19, 1⟩) (meth := k19m1) (c := k19c1) (by decide +kernel) rfl rfl rfl (by decide +kernel)
set_option maxRecDepth 65536 in
theorem w_c35 : (Jvm.Cond.code ({ cls := "com/example/libtardy/libtardy/QueueCountsToStringPinLaw", name := "digit", desc := "(J)I" } : Jvm.MethodName) method_2_code (2 : Nat) (Option.some Jvm.ClassFile.FieldType.int)).before args0 about1 = true := code_word (m := ⟨1, 1⟩) (meth := k1m1) (c := k1c1) (by decide +kernel) rfl rfl rfl (by decide +kernel)
set_option maxRecDepth 65536 in
theorem w_c36 : (Jvm.Cond.code ({ cls := "com/example/libtardy/libtardy/QueueCountsToStringPinLaw", name := "ch", desc := "(I)C" } : Jvm.MethodName) method_3_code (1 : Nat) (Option.some Jvm.ClassFile.FieldType.char)).before args0 about1 = true := code_word (m := ⟨1, 2⟩) (meth := k1m2) (c := k1c2) (by decide +kernel) rfl rfl rfl (by decide +kernel)
set_option maxRecDepth 65536 in
theorem w_c37 : (Jvm.Cond.code ({ cls := "java/lang/String", name := "<init>", desc := "([C)V" } : Jvm.MethodName) jdk_42_method_3_code (2 : Nat) (Option.none : Option Jvm.ClassFile.FieldType)).before args0 about1 = true := code_word (m := ⟨11, 1⟩) (meth := k11m1) (c := k11c1) (by decide +kernel) rfl rfl rfl (by decide +kernel)
set_option maxRecDepth 65536 in
theorem w_c38 : (Jvm.Cond.code ({ cls := "java/lang/String", name := "<init>", desc := "([CIILjava/lang/Void;)V" } : Jvm.MethodName) jdk_42_method_149_code (6 : Nat) (Option.none : Option Jvm.ClassFile.FieldType)).before args0 about1 = true := code_word (m := ⟨11, 6⟩) (meth := k11m6) (c := k11c6) (by decide +kernel) rfl rfl rfl (by decide +kernel)
set_option maxRecDepth 65536 in
theorem w_c39 : (Jvm.Cond.code ({ cls := "java/lang/StringUTF16", name := "compress", desc := "([CII)[B" } : Jvm.MethodName) jdk_52_method_16_code (6 : Nat) (Option.some (Jvm.ClassFile.FieldType.array Jvm.ClassFile.FieldType.byte))).before args0 about1 = true := code_word (m := ⟨20, 2⟩) (meth := k20m2) (c := k20c2) (by decide +kernel) rfl rfl rfl (by decide +kernel)
set_option maxRecDepth 65536 in
theorem w_c40 : (Jvm.Cond.code ({ cls := "java/lang/StringUTF16", name := "compress", desc := "([CI[BII)I" } : Jvm.MethodName) jdk_52_method_21_code (7 : Nat) (Option.some Jvm.ClassFile.FieldType.int)).before args0 about1 = true := code_word (m := ⟨20, 3⟩) (meth := k20m3) (c := k20c3) (by decide +kernel) rfl rfl rfl (by decide +kernel)
set_option maxRecDepth 65536 in
theorem w_c41 : (Jvm.Cond.code ({ cls := "java/lang/StringUTF16", name := "coderFromArrayLen", desc := "([BI)B" } : Jvm.MethodName) jdk_52_method_15_code (2 : Nat) (Option.some Jvm.ClassFile.FieldType.byte)).before args0 about1 = true := code_word (m := ⟨20, 1⟩) (meth := k20m1) (c := k20c1) (by decide +kernel) rfl rfl rfl (by decide +kernel)
def codes1 : List Jvm.Cond := [Jvm.Cond.code x code maxLocals ret, Jvm.Cond.code ({ cls := "com/example/libtardy/libtardy/QueueCounts", name := "<init>", desc := "(JJJJ)V" } : Jvm.MethodName) prog_5_method_1_code (9 : Nat) (Option.none : Option Jvm.ClassFile.FieldType), Jvm.Cond.code ({ cls := "java/lang/Object", name := "<init>", desc := "()V" } : Jvm.MethodName) object_method_1_code (1 : Nat) (Option.none : Option Jvm.ClassFile.FieldType), Jvm.Cond.code ({ cls := "com/example/libtardy/libtardy/QueueCounts", name := "toString", desc := "()Ljava/lang/String;" } : Jvm.MethodName) prog_5_method_8_code (1 : Nat) (Option.some (Jvm.ClassFile.FieldType.object "java/lang/String")), Jvm.Cond.code ({ cls := "java/lang/StringBuilder", name := "<init>", desc := "()V" } : Jvm.MethodName) jdk_67_method_1_code (1 : Nat) (Option.none : Option Jvm.ClassFile.FieldType), Jvm.Cond.code ({ cls := "java/lang/AbstractStringBuilder", name := "<init>", desc := "(I)V" } : Jvm.MethodName) jdk_68_method_2_code (2 : Nat) (Option.none : Option Jvm.ClassFile.FieldType), Jvm.Cond.code ({ cls := "java/lang/StringBuilder", name := "append", desc := "(Ljava/lang/String;)Ljava/lang/StringBuilder;" } : Jvm.MethodName) jdk_67_method_7_code (2 : Nat) (Option.some (Jvm.ClassFile.FieldType.object "java/lang/StringBuilder")), Jvm.Cond.code ({ cls := "java/lang/AbstractStringBuilder", name := "append", desc := "(Ljava/lang/String;)Ljava/lang/AbstractStringBuilder;" } : Jvm.MethodName) jdk_68_method_22_code (3 : Nat) (Option.some (Jvm.ClassFile.FieldType.object "java/lang/AbstractStringBuilder")), Jvm.Cond.code ({ cls := "java/lang/String", name := "length", desc := "()I" } : Jvm.MethodName) jdk_42_method_54_code (1 : Nat) (Option.some Jvm.ClassFile.FieldType.int), Jvm.Cond.code ({ cls := "java/lang/String", name := "coder", desc := "()B" } : Jvm.MethodName) jdk_42_method_152_code (1 : Nat) (Option.some Jvm.ClassFile.FieldType.byte), Jvm.Cond.code ({ cls := "java/lang/AbstractStringBuilder", name := "ensureCapacityInternal", desc := "(I)V" } : Jvm.MethodName) jdk_68_method_9_code (3 : Nat) (Option.none : Option Jvm.ClassFile.FieldType), Jvm.Cond.code ({ cls := "java/lang/AbstractStringBuilder", name := "newCapacity", desc := "(I)I" } : Jvm.MethodName) jdk_68_method_10_code (6 : Nat) (Option.some Jvm.ClassFile.FieldType.int), Jvm.Cond.code ({ cls := "jdk/internal/util/ArraysSupport", name := "newLength", desc := "(III)I" } : Jvm.MethodName) jdk_48_method_27_code (4 : Nat) (Option.some Jvm.ClassFile.FieldType.int), Jvm.Cond.code ({ cls := "java/lang/Math", name := "max", desc := "(II)I" } : Jvm.MethodName) jdk_29_method_65_code (2 : Nat) (Option.some Jvm.ClassFile.FieldType.int), Jvm.Cond.code ({ cls := "java/util/Arrays", name := "copyOf", desc := "([BI)[B" } : Jvm.MethodName) jdk_65_method_121_code (3 : Nat) (Option.some (Jvm.ClassFile.FieldType.array Jvm.ClassFile.FieldType.byte)), Jvm.Cond.code ({ cls := "java/lang/Math", name := "min", desc := "(II)I" } : Jvm.MethodName) jdk_29_method_69_code (2 : Nat) (Option.some Jvm.ClassFile.FieldType.int), Jvm.Cond.code ({ cls := "java/lang/AbstractStringBuilder", name := "putStringAt", desc := "(ILjava/lang/String;)V" } : Jvm.MethodName) jdk_68_method_73_code (3 : Nat) (Option.none : Option Jvm.ClassFile.FieldType), Jvm.Cond.code ({ cls := "java/lang/AbstractStringBuilder", name := "inflateIfNeededFor", desc := "(Ljava/lang/String;)V" } : Jvm.MethodName) jdk_68_method_71_code (2 : Nat) (Option.none : Option Jvm.ClassFile.FieldType), Jvm.Cond.code ({ cls := "java/lang/String", name := "getBytes", desc := "([BIB)V" } : Jvm.MethodName) jdk_42_method_147_code (4 : Nat) (Option.none : Option Jvm.ClassFile.FieldType), Jvm.Cond.code ({ cls := "java/lang/StringBuilder", name := "append", desc := "(J)Ljava/lang/StringBuilder;" } : Jvm.MethodName) jdk_67_method_16_code (3 : Nat) (Option.some (Jvm.ClassFile.FieldType.object "java/lang/StringBuilder")), Jvm.Cond.code ({ cls := "java/lang/AbstractStringBuilder", name := "append", desc := "(J)Ljava/lang/AbstractStringBuilder;" } : Jvm.MethodName) jdk_68_method_33_code (5 : Nat) (Option.some (Jvm.ClassFile.FieldType.object "java/lang/AbstractStringBuilder")), Jvm.Cond.code ({ cls := "java/lang/Long", name := "stringSize", desc := "(J)I" } : Jvm.MethodName) jdk_35_method_15_code (6 : Nat) (Option.some Jvm.ClassFile.FieldType.int), Jvm.Cond.code ({ cls := "java/lang/AbstractStringBuilder", name := "isLatin1", desc := "()Z" } : Jvm.MethodName) jdk_68_method_68_code (1 : Nat) (Option.some Jvm.ClassFile.FieldType.boolean), Jvm.Cond.code ({ cls := "java/lang/Long", name := "getChars", desc := "(JI[B)I" } : Jvm.MethodName) jdk_35_method_14_code (11 : Nat) (Option.some Jvm.ClassFile.FieldType.int), Jvm.Cond.code ({ cls := "java/lang/StringBuilder", name := "toString", desc := "()Ljava/lang/String;" } : Jvm.MethodName) jdk_67_method_42_code (1 : Nat) (Option.some (Jvm.ClassFile.FieldType.object "java/lang/String")), Jvm.Cond.code ({ cls := "java/lang/String", name := "<init>", desc := "(Ljava/lang/StringBuilder;)V" } : Jvm.MethodName) jdk_42_method_53_code (2 : Nat) (Option.none : Option Jvm.ClassFile.FieldType), Jvm.Cond.code ({ cls := "java/lang/String", name := "<init>", desc := "(Ljava/lang/AbstractStringBuilder;Ljava/lang/Void;)V" } : Jvm.MethodName) jdk_42_method_150_code (5 : Nat) (Option.none : Option Jvm.ClassFile.FieldType), Jvm.Cond.code ({ cls := "java/lang/AbstractStringBuilder", name := "getValue", desc := "()[B" } : Jvm.MethodName) jdk_68_method_64_code (1 : Nat) (Option.some (Jvm.ClassFile.FieldType.array Jvm.ClassFile.FieldType.byte)), Jvm.Cond.code ({ cls := "java/lang/StringBuilder", name := "length", desc := "()I" } : Jvm.MethodName) jdk_67_method_93_code (1 : Nat) (Option.some Jvm.ClassFile.FieldType.int), Jvm.Cond.code ({ cls := "java/lang/AbstractStringBuilder", name := "length", desc := "()I" } : Jvm.MethodName) jdk_68_method_6_code (1 : Nat) (Option.some Jvm.ClassFile.FieldType.int), Jvm.Cond.code ({ cls := "java/util/Arrays", name := "copyOfRange", desc := "([BII)[B" } : Jvm.MethodName) jdk_65_method_132_code (3 : Nat) (Option.some (Jvm.ClassFile.FieldType.array Jvm.ClassFile.FieldType.byte)), Jvm.Cond.code ({ cls := "java/util/Arrays", name := "copyOfRangeByte", desc := "([BII)[B" } : Jvm.MethodName) jdk_65_method_133_code (5 : Nat) (Option.some (Jvm.ClassFile.FieldType.array Jvm.ClassFile.FieldType.byte)), Jvm.Cond.code ({ cls := "java/util/Arrays", name := "checkLength", desc := "(II)V" } : Jvm.MethodName) jdk_65_method_131_code (2 : Nat) (Option.none : Option Jvm.ClassFile.FieldType), Jvm.Cond.code ({ cls := "java/lang/String", name := "equals", desc := "(Ljava/lang/Object;)Z" } : Jvm.MethodName) jdk_42_method_66_code (3 : Nat) (Option.some Jvm.ClassFile.FieldType.boolean), Jvm.Cond.code ({ cls := "java/lang/StringLatin1", name := "equals", desc := "([B[B)Z" } : Jvm.MethodName) jdk_43_method_13_code (3 : Nat) (Option.some Jvm.ClassFile.FieldType.boolean), Jvm.Cond.code ({ cls := "com/example/libtardy/libtardy/QueueCountsToStringPinLaw", name := "digit", desc := "(J)I" } : Jvm.MethodName) method_2_code (2 : Nat) (Option.some Jvm.ClassFile.FieldType.int), Jvm.Cond.code ({ cls := "com/example/libtardy/libtardy/QueueCountsToStringPinLaw", name := "ch", desc := "(I)C" } : Jvm.MethodName) method_3_code (1 : Nat) (Option.some Jvm.ClassFile.FieldType.char), Jvm.Cond.code ({ cls := "java/lang/String", name := "<init>", desc := "([C)V" } : Jvm.MethodName) jdk_42_method_3_code (2 : Nat) (Option.none : Option Jvm.ClassFile.FieldType), Jvm.Cond.code ({ cls := "java/lang/String", name := "<init>", desc := "([CIILjava/lang/Void;)V" } : Jvm.MethodName) jdk_42_method_149_code (6 : Nat) (Option.none : Option Jvm.ClassFile.FieldType), Jvm.Cond.code ({ cls := "java/lang/StringUTF16", name := "compress", desc := "([CII)[B" } : Jvm.MethodName) jdk_52_method_16_code (6 : Nat) (Option.some (Jvm.ClassFile.FieldType.array Jvm.ClassFile.FieldType.byte)), Jvm.Cond.code ({ cls := "java/lang/StringUTF16", name := "compress", desc := "([CI[BII)I" } : Jvm.MethodName) jdk_52_method_21_code (7 : Nat) (Option.some Jvm.ClassFile.FieldType.int), Jvm.Cond.code ({ cls := "java/lang/StringUTF16", name := "coderFromArrayLen", desc := "([BI)B" } : Jvm.MethodName) jdk_52_method_15_code (2 : Nat) (Option.some Jvm.ClassFile.FieldType.byte)]
set_option maxRecDepth 65536 in
theorem codes_eq : words1.filter isCode = codes1 := rfl
theorem w_codes : ∀ c ∈ words1.filter isCode, c.before args0 about1 = true := by
  rw [codes_eq]
  intro c hc
  simp only [codes1, List.mem_cons, List.not_mem_nil, or_false] at hc
  rcases hc with rfl | rfl | rfl | rfl | rfl | rfl | rfl | rfl | rfl | rfl | rfl | rfl | rfl | rfl | rfl | rfl | rfl | rfl | rfl | rfl | rfl | rfl | rfl | rfl | rfl | rfl | rfl | rfl | rfl | rfl | rfl | rfl | rfl | rfl | rfl | rfl | rfl | rfl | rfl | rfl | rfl | rfl
  · exact w_c0
  · exact w_c1
  · exact w_c2
  · exact w_c3
  · exact w_c4
  · exact w_c5
  · exact w_c6
  · exact w_c7
  · exact w_c8
  · exact w_c9
  · exact w_c10
  · exact w_c11
  · exact w_c12
  · exact w_c13
  · exact w_c14
  · exact w_c15
  · exact w_c16
  · exact w_c17
  · exact w_c18
  · exact w_c19
  · exact w_c20
  · exact w_c21
  · exact w_c22
  · exact w_c23
  · exact w_c24
  · exact w_c25
  · exact w_c26
  · exact w_c27
  · exact w_c28
  · exact w_c29
  · exact w_c30
  · exact w_c31
  · exact w_c32
  · exact w_c33
  · exact w_c34
  · exact w_c35
  · exact w_c36
  · exact w_c37
  · exact w_c38
  · exact w_c39
  · exact w_c40
  · exact w_c41
set_option maxRecDepth 65536 in
theorem w_t1 : (words1.take 24).all (fun c => isCode c || c.before args0 about1) = true := by decide +kernel
set_option maxRecDepth 65536 in
theorem w_t2 : ((words1.drop 24).take 24).all (fun c => isCode c || c.before args0 about1) = true := by decide +kernel
set_option maxRecDepth 65536 in
theorem w_t3 : (((words1.drop 24).drop 24).take 24).all (fun c => isCode c || c.before args0 about1) = true := by decide +kernel
set_option maxRecDepth 65536 in
theorem w_t4 : ((((words1.drop 24).drop 24).drop 24).take 24).all (fun c => isCode c || c.before args0 about1) = true := by decide +kernel
set_option maxRecDepth 65536 in
theorem w_t5 : (((((words1.drop 24).drop 24).drop 24).drop 24).take 24).all (fun c => isCode c || c.before args0 about1) = true := by decide +kernel
set_option maxRecDepth 65536 in
theorem w_t6 : ((((((words1.drop 24).drop 24).drop 24).drop 24).drop 24).take 24).all (fun c => isCode c || c.before args0 about1) = true := by decide +kernel
set_option maxRecDepth 65536 in
theorem w_t7 : (((((((words1.drop 24).drop 24).drop 24).drop 24).drop 24).drop 24).take 24).all (fun c => isCode c || c.before args0 about1) = true := by decide +kernel
set_option maxRecDepth 65536 in
theorem w_t8 : ((((((((words1.drop 24).drop 24).drop 24).drop 24).drop 24).drop 24).drop 24).take 24).all (fun c => isCode c || c.before args0 about1) = true := by decide +kernel
set_option maxRecDepth 65536 in
theorem w_t9 : (((((((((words1.drop 24).drop 24).drop 24).drop 24).drop 24).drop 24).drop 24).drop 24).take 24).all (fun c => isCode c || c.before args0 about1) = true := by decide +kernel
set_option maxRecDepth 65536 in
theorem w_t10 : (((((((((words1.drop 24).drop 24).drop 24).drop 24).drop 24).drop 24).drop 24).drop 24).drop 24).all (fun c => isCode c || c.before args0 about1) = true := by decide +kernel
theorem w_tables : (allAtoms (Jvm.Cond.code x code maxLocals ret :: tables_1)).before args0 about1 = true := by
  rw [allAtoms_all]
  show words1.all (fun c => c.before args0 about1) = true
  refine all_split ?_ w_codes
  rw [← List.take_append_drop 24 words1, List.all_append, w_t1, ← List.take_append_drop 24 (words1.drop 24), List.all_append, w_t2, ← List.take_append_drop 24 ((words1.drop 24).drop 24), List.all_append, w_t3, ← List.take_append_drop 24 (((words1.drop 24).drop 24).drop 24), List.all_append, w_t4, ← List.take_append_drop 24 ((((words1.drop 24).drop 24).drop 24).drop 24), List.all_append, w_t5, ← List.take_append_drop 24 (((((words1.drop 24).drop 24).drop 24).drop 24).drop 24), List.all_append, w_t6, ← List.take_append_drop 24 ((((((words1.drop 24).drop 24).drop 24).drop 24).drop 24).drop 24), List.all_append, w_t7, ← List.take_append_drop 24 (((((((words1.drop 24).drop 24).drop 24).drop 24).drop 24).drop 24).drop 24), List.all_append, w_t8, ← List.take_append_drop 24 ((((((((words1.drop 24).drop 24).drop 24).drop 24).drop 24).drop 24).drop 24).drop 24), List.all_append, w_t9, w_t10]
  rfl
set_option maxRecDepth 65536 in
theorem w_rest : rest_1_c.before args0 about1 = true := by decide +kernel
set_option maxRecDepth 65536 in
theorem w_case : (Jvm.Cond.and given_1 narrow_1).before args0 about1 = true := by decide +kernel
set_option maxRecDepth 65536 in
theorem w_consts : constsHeld consts_1 about1 := Jvm.Lit.constsHeldB_iff.mp (by decide +kernel)
theorem w_applies : (headSpec (Jvm.Cond.code x code maxLocals ret :: tables_1) room_1).applies x e0.platform about1 = true :=
  (Spec.applies_iff w_frames).mpr ⟨w_running, w_runnable, w_alone, w_named, w_hears, w_ripe, w_room, w_tables⟩
theorem atStart : AtStart classFile x code maxLocals ret World_1 tables_1 room_1 Calls_1 rest_1 Pre_1 launch0 p0 e0 about1 theMethod args0 below0 :=
  ⟨lists_1, trivial, launch0.admits_env _ _ _, launch0.least_env, fairChoices_fair.cas, fairChoices_fair.clock, w_frames, w_args, w_heap, w_applies, ⟨w_consts, trivial⟩, w_rest, w_case⟩
end start1
theorem witness_1 : WitnessClaimed_1 := ⟨start1.p0, start1.e0, start1.about1, start1.theMethod, start1.args0, start1.below0, start1.atStart⟩
end Jvm.Pilot.@@N@@
