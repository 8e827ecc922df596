import JvmDerived
import JvmDerived.Pilot.@@N@@Statement
import JvmDerived.Pilot.@@N@@Code
set_option linter.unusedVariables false
set_option linter.unusedSimpArgs false
/- laws to paste: Road.backV, Road.eqW, Road.empW (cut by pick.py; bodies as the Statement names them) -/
namespace Jvm.Pilot.@@N@@
namespace StrChars
open Jvm Sem ClassFile Op Lib Jvm.Stand Jvm.Free.XT Jvm.Free.ALB Jvm.Free.JM Jvm.Free
open Jvm.Lib.Cold (StaticIs)
/-- a char array whose places are chars -/
def Ch (a : Addr) (A : Cell) (U : State) : Prop := Arr .char a A U ∧ Typed .char A
theorem Ch.mv {a : Addr} {A : Cell} {U U' : State} (h : Ch a A U) (hal : U.vm.Alike U'.vm) (hh : U'.heap = U.heap) : Ch a A U' := ⟨h.1.mv hal hh, h.2⟩
theorem Ch.keep {a : Addr} {A : Cell} {U U' : State} (h : Ch a A U) (hal : U.vm.Alike U'.vm) (hk : U'.heap[a]? = some A) : Ch a A U' := ⟨h.1.keep hal hk, h.2⟩
/-- what place i of a char[]'s cell holds -/
def cv (A : Cell) (i : Nat) : Int32 := match A.slots[i]? with | some (.int x) => x | _ => 0
theorem Ch.get {a : Addr} {A : Cell} {U : State} (h : Ch a A U) {i : Nat} (hi : i < A.slots.size) : A.slots[i]? = some (.int (cv A i)) := by
  have e := Array.getElem?_eq_getElem hi
  have f := h.2 i _ e
  unfold cv; rw [e]
  generalize A.slots[i] = v at f
  cases v <;> simp [fits] at f ⊢
/-- the byte that i2b leaves of a char -/
def lo8 (x : Int32) : Int32 := x.toInt8.toInt32
theorem fits_lo8 (y : Int32) : fits .byte (.int (lo8 y)) = true := by
  have h1 := y.toInt8.le_toInt
  have h2 := y.toInt8.toInt_lt
  simp only [lo8, fits, Bool.and_eq_true, decide_eq_true_eq, Int32.le_iff_toInt_le, Int8.toInt_toInt32, show (-128 : Int32).toInt = -128 from by decide, show (127 : Int32).toInt = 127 from by decide]
  omega
/-- A' is A but that each place j of lo .. hi - 1 holds f j -/
def Laid (A A' : Cell) (lo hi : Nat) (f : Nat → Value) : Prop := A'.cls = A.cls ∧ A'.vm = A.vm ∧ A'.slots.size = A.slots.size ∧ ∀ i, A'.slots[i]? = if lo ≤ i ∧ i < hi then some (f i) else A.slots[i]?
theorem Laid.zero (A : Cell) (lo : Nat) (f : Nat → Value) : Laid A A lo (lo + 0) f := ⟨rfl, rfl, rfl, fun i => by rw [if_neg (by omega)]⟩
theorem Laid.step {A Ak : Cell} {lo k : Nat} {f : Nat → Value} {v : Value} (h : Laid A Ak lo k f) (hlo : lo ≤ k) (hk : k < Ak.slots.size) (hv : v = f k) : Laid A (Ak.setSlot k v) lo (k + 1) f := by
  refine ⟨h.1, h.2.1, by simpa [Cell.setSlot] using h.2.2.1, fun i => ?_⟩
  by_cases e : k = i
  · subst e; rw [Cell.slots_setSlot_self v hk, if_pos (by omega), hv]
  · rw [Cell.slots_setSlot_ne v e, h.2.2.2 i]
    by_cases q : lo ≤ i ∧ i < k
    · rw [if_pos q, if_pos (by omega)]
    · rw [if_neg q, if_neg (by omega)]
def U16 : String := "java/lang/StringUTF16"
namespace Cmp5
def yN : MethodName := ⟨"java/lang/StringUTF16", "compress", "([CI[BII)I"⟩
abbrev yB : ByteArray := jdk_52_method_21_code
theorem d0 : decode yB 0 = .ok (.iconst 0, 1) := by decide +kernel
theorem d1 : decode yB 1 = .ok (.istore 5, 2) := by decide +kernel
theorem d3 : decode yB 3 = .ok (.iload 5, 2) := by decide +kernel
theorem d5 : decode yB 5 = .ok (.iload 4, 2) := by decide +kernel
theorem d7 : decode yB 7 = .ok (.if_icmp (.ge) 37, 3) := by decide +kernel
theorem d10 : decode yB 10 = .ok (.aload_n 0, 1) := by decide +kernel
theorem d11 : decode yB 11 = .ok (.iload_n 1, 1) := by decide +kernel
theorem d12 : decode yB 12 = .ok (.caload, 1) := by decide +kernel
theorem d13 : decode yB 13 = .ok (.istore 6, 2) := by decide +kernel
theorem d15 : decode yB 15 = .ok (.iload 6, 2) := by decide +kernel
theorem d17 : decode yB 17 = .ok (.sipush 255, 3) := by decide +kernel
theorem d20 : decode yB 20 = .ok (.if_icmp (.le) 6, 3) := by decide +kernel
theorem d26 : decode yB 26 = .ok (.aload_n 2, 1) := by decide +kernel
theorem d27 : decode yB 27 = .ok (.iload_n 3, 1) := by decide +kernel
theorem d28 : decode yB 28 = .ok (.iload 6, 2) := by decide +kernel
theorem d30 : decode yB 30 = .ok (.i2b, 1) := by decide +kernel
theorem d31 : decode yB 31 = .ok (.bastore, 1) := by decide +kernel
theorem d32 : decode yB 32 = .ok (.iinc 1 1, 3) := by decide +kernel
theorem d35 : decode yB 35 = .ok (.iinc 3 1, 3) := by decide +kernel
theorem d38 : decode yB 38 = .ok (.iinc 5 1, 3) := by decide +kernel
theorem d41 : decode yB 41 = .ok (.goto (-38), 3) := by decide +kernel
theorem d44 : decode yB 44 = .ok (.iload 4, 2) := by decide +kernel
theorem d46 : decode yB 46 = .ok (.ireturn, 1) := by decide +kernel
def site : List Cond := []
def tab : Cond := tabOf yN yB 7 (some .int) site
def P (b : Addr) (A : Cell) (d : Addr) (B : Cell) (o q len : Nat) (args : Array Value) (s : State) : Prop := args = #[.ref b, .int (Int32.ofNat o), .ref d, .int (Int32.ofNat q), .int (Int32.ofNat len)] ∧ Ch b A s ∧ Arr .byte d B s ∧ b ≠ d ∧ o + len ≤ A.slots.size ∧ q + len ≤ B.slots.size ∧ ∀ i, i < len → ¬ 255 < cv A (o + i)
def E (b : Addr) (A : Cell) (d : Addr) (B : Cell) (o q len : Nat) (r : Option Value) (s u : State) : Prop := r = some (.int (Int32.ofNat len)) ∧ ∃ B', Put d B' s u ∧ Laid B B' q (q + len) (fun j => Value.int (lo8 (cv A (o + (j - q)))))
/-- no char of the range above 255: len; the places written hold each char's low byte -/
theorem law (l : Launch) (b : Addr) (A : Cell) (d : Addr) (B : Cell) (o q len : Nat) : Law l yN 5 5 0 0 yB 7 (some .int) site (P b A d B o q len) (E b A d B o q len) (copyLocs d q len) 0 0 := by
  refine Law.of_walk (plainFor_of_name (by decide +kernel)) (by decide +kernel) (by decide +kernel) (by decide) (fun _ _ h => by rw [h.1]; rfl) (fun _ U U' hal hh h => ⟨h.1, h.2.1.mv hal hh, h.2.2.1.mv hal hh, h.2.2.2⟩) (fun r U U' V V' h1 hal h2 h => ⟨h.1, h.2.elim fun B' q => ⟨B', q.1.mv h1 h2, q.2⟩⟩) ?_
  intro p e s m args below meth c s₁ X0 hexec hbytes hml hret hlk hnm hown hh0 W hP
  obtain ⟨rfl, hA, hB, hne, l1, l2, hp⟩ := hP
  have c1 : Steps p.tables e below (s₁.setTop (entryFrame m #[.ref b, .int (Int32.ofNat o), .ref d, .int (Int32.ofNat q), .int (Int32.ofNat len)] 7)) (s₁.setTop (mkF m 0 #[.val (.ref b), .val (.int (Int32.ofNat o)), .val (.ref d), .val (.int (Int32.ofNat q)), .val (.int (Int32.ofNat len)), .unset, .unset] [])) := entry rfl
  have hA0 := hA.1.mv X0.warmed.alike hh0
  have hB0 := hB.mv X0.warmed.alike hh0
  have a31 := hA.1.2.2.2
  have c2 : Steps p.tables e below (s₁.setTop (entryFrame m #[.ref b, .int (Int32.ofNat o), .ref d, .int (Int32.ofNat q), .int (Int32.ofNat len)] 7)) (s₁.setTop (mkF m 3 #[.val (.ref b), .val (.int (Int32.ofNat o)), .val (.ref d), .val (.int (Int32.ofNat q)), .val (.int (Int32.ofNat len)), .val (.int 0), .unset] [])) := c1.trans (by
    refine iconstV X0.here hexec rfl 0 (hb hbytes d0) (by decide) ?_
    refine XS.istore X0.here hexec rfl (hb hbytes d1) rfl rfl ?_
    exact Steps.refl _)
  have loop : ∀ (r i : Nat), i + r = len → ∀ (z : Slot), (z = .unset ∨ ∃ w, z = .val w ∧ w.category = 1) → ∀ (Tl : State) (Bk : Cell), Stand p l e { frames := 0, locals := 0, cells := 0, slots := 0 } s m #[.ref b, .int (Int32.ofNat o), .ref d, .int (Int32.ofNat q), .int (Int32.ofNat len)] below meth c Tl ([] ++ copyLocs d q i) 0 0 → Put d Bk s₁ Tl → Laid B Bk q (q + i) (fun j => Value.int (lo8 (cv A (o + (j - q))))) →
      Steps p.tables e below (s₁.setTop (entryFrame m #[.ref b, .int (Int32.ofNat o), .ref d, .int (Int32.ofNat q), .int (Int32.ofNat len)] 7)) (Tl.setTop (mkF m 3 #[.val (.ref b), .val (.int (Int32.ofNat (o + i))), .val (.ref d), .val (.int (Int32.ofNat (q + i))), .val (.int (Int32.ofNat len)), .val (.int (Int32.ofNat i)), z] [])) → ∃ (T' : State) (B' : Cell) (z' : Slot), Stand p l e { frames := 0, locals := 0, cells := 0, slots := 0 } s m #[.ref b, .int (Int32.ofNat o), .ref d, .int (Int32.ofNat q), .int (Int32.ofNat len)] below meth c T' ([] ++ copyLocs d q len) 0 0 ∧ Put d B' s₁ T' ∧ Laid B B' q (q + len) (fun j => Value.int (lo8 (cv A (o + (j - q))))) ∧
      Steps p.tables e below (s₁.setTop (entryFrame m #[.ref b, .int (Int32.ofNat o), .ref d, .int (Int32.ofNat q), .int (Int32.ofNat len)] 7)) (T'.setTop (mkF m 3 #[.val (.ref b), .val (.int (Int32.ofNat (o + len))), .val (.ref d), .val (.int (Int32.ofNat (q + len))), .val (.int (Int32.ofNat len)), .val (.int (Int32.ofNat len)), z'] [])) := by
    intro r
    induction r with
    | zero =>
      intro i hi z hz Tl Bk Xl pl fl cl
      have hil : i = len := by omega
      rw [hil] at Xl fl cl
      exact ⟨Tl, Bk, z, Xl, pl, fl, cl⟩
    | succ r ih =>
      intro i hi z hz Tl Bk Xl pl fl cl
      have all := X0.warmed.alike.symm.trans Xl.warmed.alike
      have hAl := hA0.keep all (pl.other hne hA0.1)
      have hBk := hB0.like all pl.1 fl.1 fl.2.1 fl.2.2.1
      have hlt : q + i < Bk.slots.size := by rw [fl.2.2.1]; omega
      have c3 : Steps p.tables e below (s₁.setTop (entryFrame m #[.ref b, .int (Int32.ofNat o), .ref d, .int (Int32.ofNat q), .int (Int32.ofNat len)] 7)) (Tl.setTop (mkF m 12 #[.val (.ref b), .val (.int (Int32.ofNat (o + i))), .val (.ref d), .val (.int (Int32.ofNat (q + i))), .val (.int (Int32.ofNat len)), .val (.int (Int32.ofNat i)), z] [.int (Int32.ofNat (o + i)), .ref b])) := cl.trans (by
        refine XS.iload Xl.here hexec rfl (hb hbytes d3) rfl ?_
        refine XS.iload Xl.here hexec rfl (hb hbytes d5) rfl ?_
        refine XS.icmpNo Xl.here hexec rfl (hb hbytes d7) rfl (ii_ge_f (lt32 (by omega) (by omega))) ?_
        refine XS.aloadN Xl.here hexec rfl (hb hbytes d10) rfl rfl ?_
        refine XS.iloadN Xl.here hexec rfl (hb hbytes d11) rfl ?_
        exact Steps.refl _)
      have c4 : Steps p.tables e below (s₁.setTop (entryFrame m #[.ref b, .int (Int32.ofNat o), .ref d, .int (Int32.ofNat q), .int (Int32.ofNat len)] 7)) (Tl.setTop (mkF m 13 #[.val (.ref b), .val (.int (Int32.ofNat (o + i))), .val (.ref d), .val (.int (Int32.ofNat (q + i))), .val (.int (Int32.ofNat len)), .val (.int (Int32.ofNat i)), z] [.int (cv A (o + i))])) := c3.trans (by
        refine Xl.aget hexec hAl rfl (hA.get (i := o + i) (by omega)) rfl rfl (hb hbytes d12) ?_
        exact Steps.refl _)
      have c5 : Steps p.tables e below (s₁.setTop (entryFrame m #[.ref b, .int (Int32.ofNat o), .ref d, .int (Int32.ofNat q), .int (Int32.ofNat len)] 7)) (Tl.setTop (mkF m 15 #[.val (.ref b), .val (.int (Int32.ofNat (o + i))), .val (.ref d), .val (.int (Int32.ofNat (q + i))), .val (.int (Int32.ofNat len)), .val (.int (Int32.ofNat i)), .val (.int (cv A (o + i)))] [])) := c4.trans (by
        refine XS.istoreS Xl.here hexec rfl (hb hbytes d13) rfl rfl hz ?_
        exact Steps.refl _)
      have c6 : Steps p.tables e below (s₁.setTop (entryFrame m #[.ref b, .int (Int32.ofNat o), .ref d, .int (Int32.ofNat q), .int (Int32.ofNat len)] 7)) (Tl.setTop (mkF m 31 #[.val (.ref b), .val (.int (Int32.ofNat (o + i))), .val (.ref d), .val (.int (Int32.ofNat (q + i))), .val (.int (Int32.ofNat len)), .val (.int (Int32.ofNat i)), .val (.int (cv A (o + i)))] [.int (lo8 (cv A (o + i))), .int (Int32.ofNat (q + i)), .ref d])) := c5.trans (by
        refine XS.iload Xl.here hexec rfl (hb hbytes d15) rfl ?_
        refine sipushV Xl.here hexec rfl 255 (hb hbytes d17) (by decide) ?_
        refine XS.icmpYes Xl.here hexec rfl (pc0 := 20) rfl (hb hbytes d20) rfl (ii_le_t (hp i (by omega))) (by decide) rfl ?_
        refine XS.aloadN Xl.here hexec rfl (hb hbytes d26) rfl rfl ?_
        refine XS.iloadN Xl.here hexec rfl (hb hbytes d27) rfl ?_
        refine XS.iload Xl.here hexec rfl (hb hbytes d28) rfl ?_
        refine i2b Xl.here hexec rfl (hb hbytes d30) rfl ?_
        exact Steps.refl _)
      obtain ⟨T7, X7, p7, st7⟩ := Xl.aput hexec hBk rfl hlt rfl (fits_lo8 (cv A (o + i))) (g := (mkF m 31 #[.val (.ref b), .val (.int (Int32.ofNat (o + i))), .val (.ref d), .val (.int (Int32.ofNat (q + i))), .val (.int (Int32.ofNat len)), .val (.int (Int32.ofNat i)), .val (.int (cv A (o + i)))] [.int (lo8 (cv A (o + i))), .int (Int32.ofNat (q + i)), .ref d])) rfl (rest := []) rfl (hb hbytes d31)
      have c8 : Steps p.tables e below (s₁.setTop (entryFrame m #[.ref b, .int (Int32.ofNat o), .ref d, .int (Int32.ofNat q), .int (Int32.ofNat len)] 7)) (T7.setTop (mkF m 32 #[.val (.ref b), .val (.int (Int32.ofNat (o + i))), .val (.ref d), .val (.int (Int32.ofNat (q + i))), .val (.int (Int32.ofNat len)), .val (.int (Int32.ofNat i)), .val (.int (cv A (o + i)))] [])) := c6.trans (st7 _ (Steps.refl _))
      have c9 : Steps p.tables e below (s₁.setTop (entryFrame m #[.ref b, .int (Int32.ofNat o), .ref d, .int (Int32.ofNat q), .int (Int32.ofNat len)] 7)) (T7.setTop (mkF m 3 #[.val (.ref b), .val (.int (Int32.ofNat (o + i) + 1)), .val (.ref d), .val (.int (Int32.ofNat (q + i) + 1)), .val (.int (Int32.ofNat len)), .val (.int (Int32.ofNat i + 1)), .val (.int (cv A (o + i)))] [])) := c8.trans (by
        refine iincV X7.here hexec rfl 1 (hb hbytes d32) (by decide) rfl rfl ?_
        refine iincV X7.here hexec rfl 1 (hb hbytes d35) (by decide) rfl rfl ?_
        refine iincV X7.here hexec rfl 1 (hb hbytes d38) (by decide) rfl rfl ?_
        refine XS.goto X7.here hexec rfl (pc0 := 41) rfl (hb hbytes d41) (by decide) rfl ?_
        exact Steps.refl _)
      have c10 : Steps p.tables e below (s₁.setTop (entryFrame m #[.ref b, .int (Int32.ofNat o), .ref d, .int (Int32.ofNat q), .int (Int32.ofNat len)] 7)) (T7.setTop (mkF m 3 #[.val (.ref b), .val (.int (Int32.ofNat (o + (i + 1)))), .val (.ref d), .val (.int (Int32.ofNat (q + (i + 1)))), .val (.int (Int32.ofNat len)), .val (.int (Int32.ofNat (i + 1))), .val (.int (cv A (o + i)))] [])) := by
        have := c9
        rw [succ32, succ32, succ32] at this
        exact this
      exact ih (i + 1) (by omega) _ (Or.inr ⟨_, rfl, rfl⟩) T7 _ (by rw [copyLocs_step, ← List.append_assoc]; exact X7) (pl.trans p7) (fl.step (by omega) hlt (by simp)) c10
  obtain ⟨T9, B9, z9, X9, p9, f9, g9⟩ := loop len 0 (by omega) .unset (Or.inl rfl) s₁ B (by simpa [copyLocs] using X0) ⟨hB0.1, fun _ _ => rfl, rfl⟩ (Laid.zero _ _ _) c2
  have c11 : Steps p.tables e below (s₁.setTop (entryFrame m #[.ref b, .int (Int32.ofNat o), .ref d, .int (Int32.ofNat q), .int (Int32.ofNat len)] 7)) (T9.setTop (mkF m 46 #[.val (.ref b), .val (.int (Int32.ofNat (o + len))), .val (.ref d), .val (.int (Int32.ofNat (q + len))), .val (.int (Int32.ofNat len)), .val (.int (Int32.ofNat len)), z9] [.int (Int32.ofNat len)])) := g9.trans (by
    refine XS.iload X9.here hexec rfl (hb hbytes d3) rfl ?_
    refine XS.iload X9.here hexec rfl (hb hbytes d5) rfl ?_
    refine XS.icmpYes X9.here hexec rfl (pc0 := 7) rfl (hb hbytes d7) rfl (ii_ge_t (nlt32 (by omega) (Nat.le_refl _))) (by decide) rfl ?_
    refine XS.iload X9.here hexec rfl (hb hbytes d44) rfl ?_
    exact Steps.refl _)
  exact ⟨T9, some (.int (Int32.ofNat len)), _, _, _, X9, by simp, rfl, rfl, (fun h => by cases h), ⟨rfl, B9, p9.from hh0, f9⟩, fun fs hl => c11.trans (X9.ireturnOut hexec hret rfl (Or.inl rfl) (hb hbytes d46) hl)⟩
end Cmp5
namespace Cmp3
def yN : MethodName := ⟨"java/lang/StringUTF16", "compress", "([CII)[B"⟩
abbrev yB : ByteArray := jdk_52_method_16_code
theorem d0 : decode yB 0 = .ok (.iload_n 2, 1) := by decide +kernel
theorem d1 : decode yB 1 = .ok (.newarray .byte, 2) := by decide +kernel
theorem d3 : decode yB 3 = .ok (.astore_n 3, 1) := by decide +kernel
theorem d4 : decode yB 4 = .ok (.aload_n 0, 1) := by decide +kernel
theorem d5 : decode yB 5 = .ok (.iload_n 1, 1) := by decide +kernel
theorem d6 : decode yB 6 = .ok (.aload_n 3, 1) := by decide +kernel
theorem d7 : decode yB 7 = .ok (.iconst 0, 1) := by decide +kernel
theorem d8 : decode yB 8 = .ok (.iload_n 2, 1) := by decide +kernel
theorem d9 : decode yB 9 = .ok (.invokestatic 115, 3) := by decide +kernel
theorem d12 : decode yB 12 = .ok (.istore 4, 2) := by decide +kernel
theorem d14 : decode yB 14 = .ok (.iload 4, 2) := by decide +kernel
theorem d16 : decode yB 16 = .ok (.iload_n 2, 1) := by decide +kernel
theorem d17 : decode yB 17 = .ok (.if_icmp (.eq) 40, 3) := by decide +kernel
theorem d57 : decode yB 57 = .ok (.aload_n 3, 1) := by decide +kernel
theorem d58 : decode yB 58 = .ok (.areturn, 1) := by decide +kernel
def site : List Cond := [.arrayClass .byte, Cmp5.tab] ++ staticW U16 115 Cmp5.yN
def tab : Cond := tabOf yN yB 6 (some (.array .byte)) site
def P (b : Addr) (A : Cell) (o len : Nat) (args : Array Value) (s : State) : Prop := args = #[.ref b, .int (Int32.ofNat o), .int (Int32.ofNat len)] ∧ Ch b A s ∧ o + len ≤ A.slots.size ∧ len ≤ 536870912 ∧ ∀ i, i < len → ¬ 255 < cv A (o + i)
def E (b : Addr) (A : Cell) (o len : Nat) (r : Option Value) (s u : State) : Prop := NewArr .byte "[B" len (fun j => .int (lo8 (cv A (o + j)))) r s u ∧ u.heap.size = s.heap.size + 1
/-- no char of the range above 255: a new byte[] of their low bytes -/
theorem law (l : Launch) (b : Addr) (A : Cell) (o len : Nat) : Law l yN 3 3 1 18 yB 6 (some (.array .byte)) site (P b A o len) (E b A o len) [] 1 len := by
  refine Law.of_walk (plainFor_of_name (by decide +kernel)) (by decide +kernel) (by decide +kernel) (by decide) (fun _ _ h => by rw [h.1]; rfl) (fun _ U U' hal hh h => ⟨h.1, h.2.1.mv hal hh, h.2.2⟩) (fun r U U' V V' h1 hal h2 h => ⟨NewArr.mv r U U' V V' h1 hal h2 h.1, by rw [h1, h2]; exact h.2⟩) ?_
  intro p e s m args below meth c s₁ X0 hexec hbytes hml hret hlk hnm hown hh0 W hP
  obtain ⟨rfl, hA, l1, l2, hp⟩ := hP
  have a31 := hA.1.2.2.2
  have c1 : Steps p.tables e below (s₁.setTop (entryFrame m #[.ref b, .int (Int32.ofNat o), .int (Int32.ofNat len)] 6)) (s₁.setTop (mkF m 0 #[.val (.ref b), .val (.int (Int32.ofNat o)), .val (.int (Int32.ofNat len)), .unset, .unset, .unset] [])) := entry rfl
  have c2 : Steps p.tables e below (s₁.setTop (entryFrame m #[.ref b, .int (Int32.ofNat o), .int (Int32.ofNat len)] 6)) (s₁.setTop (mkF m 1 #[.val (.ref b), .val (.int (Int32.ofNat o)), .val (.int (Int32.ofNat len)), .unset, .unset, .unset] [.int (Int32.ofNat len)])) := c1.trans (by
    refine XS.iloadN X0.here hexec rfl (hb hbytes d0) rfl ?_
    exact Steps.refl _)
  obtain ⟨T3, B3, X3, ba3, bs3, bv3, bh3, bf3, st3⟩ := X0.anew hexec (atype := .byte) (wk W (.arrayClass .byte)) rfl (by show len * 1 ≤ _; omega) (by omega) (g := (mkF m 1 #[.val (.ref b), .val (.int (Int32.ofNat o)), .val (.int (Int32.ofNat len)), .unset, .unset, .unset] [.int (Int32.ofNat len)])) rfl (hb hbytes d1) (rest := []) rfl (Nat.le_refl _) (by show 0 + len ≤ len; omega)
  rw [hh0] at ba3 st3
  have kp3 : XT.Kept s T3 := (XT.Kept.of_eq hh0).push bh3
  have hA3 := hA.keep X3.warmed.alike (kp3 _ _ hA.1.1)
  have hne : b ≠ s.heap.size := hA.1.ne
  have c4 : Steps p.tables e below (s₁.setTop (entryFrame m #[.ref b, .int (Int32.ofNat o), .int (Int32.ofNat len)] 6)) (T3.setTop (mkF m 3 #[.val (.ref b), .val (.int (Int32.ofNat o)), .val (.int (Int32.ofNat len)), .unset, .unset, .unset] [.ref s.heap.size])) := c2.trans (st3 _ (Steps.refl _))
  have c5 : Steps p.tables e below (s₁.setTop (entryFrame m #[.ref b, .int (Int32.ofNat o), .int (Int32.ofNat len)] 6)) (T3.setTop (mkF m 9 #[.val (.ref b), .val (.int (Int32.ofNat o)), .val (.int (Int32.ofNat len)), .val (.ref s.heap.size), .unset, .unset] [.int (Int32.ofNat len), .int 0, .ref s.heap.size, .int (Int32.ofNat o), .ref b])) := c4.trans (by
    refine XS.astoreN X3.here hexec rfl (hb hbytes d3) rfl rfl rfl ?_
    refine XS.aloadN X3.here hexec rfl (hb hbytes d4) rfl rfl ?_
    refine XS.iloadN X3.here hexec rfl (hb hbytes d5) rfl ?_
    refine XS.aloadN X3.here hexec rfl (hb hbytes d6) rfl rfl ?_
    refine iconstV X3.here hexec rfl 0 (hb hbytes d7) (by decide) ?_
    refine XS.iloadN X3.here hexec rfl (hb hbytes d8) rfl ?_
    exact Steps.refl _)
  obtain ⟨v6, T6, X6, E6, g6⟩ := X3.callS hexec (Cmp5.law l b A s.heap.size B3 o 0 len) hown (wks W (staticW U16 115 Cmp5.yN)) (wk W Cmp5.tab) (W := 0) (Nat.le_of_ble_eq_true rfl) (Nat.le_of_ble_eq_true rfl) (Nat.le_refl _) (by show 0 + len + 0 ≤ len; omega) (g := (mkF m 9 #[.val (.ref b), .val (.int (Int32.ofNat o)), .val (.int (Int32.ofNat len)), .val (.ref s.heap.size), .unset, .unset] [.int (Int32.ofNat len), .int (Int32.ofNat 0), .ref s.heap.size, .int (Int32.ofNat o), .ref b])) rfl (by rw [hml]; rfl) c5 (argsL := [.ref b, .int (Int32.ofNat o), .ref s.heap.size, .int (Int32.ofNat 0), .int (Int32.ofNat len)]) (rest := []) rfl rfl (by show 2 * 0 + 0 ≤ _; decide) (hb hbytes d9) (⟨rfl, hA3, ba3, hne, l1, by rw [bs3]; simp, hp⟩)
  obtain ⟨rfl, B6, p6, f6⟩ := E6
  have c7 : Steps p.tables e below (s₁.setTop (entryFrame m #[.ref b, .int (Int32.ofNat o), .int (Int32.ofNat len)] 6)) (T6.setTop (mkF m 12 #[.val (.ref b), .val (.int (Int32.ofNat o)), .val (.int (Int32.ofNat len)), .val (.ref s.heap.size), .unset, .unset] [.int (Int32.ofNat len)])) := g6
  have c8 : Steps p.tables e below (s₁.setTop (entryFrame m #[.ref b, .int (Int32.ofNat o), .int (Int32.ofNat len)] 6)) (T6.setTop (mkF m 58 #[.val (.ref b), .val (.int (Int32.ofNat o)), .val (.int (Int32.ofNat len)), .val (.ref s.heap.size), .val (.int (Int32.ofNat len)), .unset] [.ref s.heap.size])) := c7.trans (by
    refine XS.istore X6.here hexec rfl (hb hbytes d12) rfl rfl ?_
    refine XS.iload X6.here hexec rfl (hb hbytes d14) rfl ?_
    refine XS.iloadN X6.here hexec rfl (hb hbytes d16) rfl ?_
    refine XS.icmpYes X6.here hexec rfl (pc0 := 17) rfl (hb hbytes d17) rfl (ii_eq_t rfl) (by decide) rfl ?_
    refine XS.aloadN X6.here hexec rfl (hb hbytes d57) rfl rfl ?_
    exact Steps.refl _)
  have X8 := X6.wide (L' := []) (cells' := 1) (slots' := len) (fun x hx hlt => by
    simp only [List.nil_append, copyLocs, List.mem_map, List.mem_range] at hx
    obtain ⟨i, -, rfl⟩ := hx
    exact absurd hlt (Nat.lt_irrefl _)) (Nat.le_refl _) (by omega)
  exact ⟨T6, some (.ref s.heap.size), _, _, _, X8, rfl, rfl, rfl, (fun h => by cases h), ⟨⟨rfl, B6, ba3.like (X3.warmed.alike.symm.trans X6.warmed.alike) p6.1 f6.1 f6.2.1 f6.2.2.1, f6.2.1.trans bv3, by rw [X6.warmed.alike.findClass, f6.1]; exact bf3, by rw [f6.2.2.1, bs3]; simp, fun j hj => by rw [f6.2.2.2 j, if_pos (by omega)]; rfl, kp3.put p6 (Nat.le_refl _)⟩, by rw [p6.2.2, bh3, hh0]; simp⟩, fun fs hl => c8.trans (X8.areturnOut hexec rfl hret rfl (hb hbytes d58) hl)⟩
end Cmp3
namespace CodL
def yN : MethodName := ⟨"java/lang/StringUTF16", "coderFromArrayLen", "([BI)B"⟩
abbrev yB : ByteArray := jdk_52_method_15_code
theorem d0 : decode yB 0 = .ok (.iload_n 1, 1) := by decide +kernel
theorem d1 : decode yB 1 = .ok (.aload_n 0, 1) := by decide +kernel
theorem d2 : decode yB 2 = .ok (.arraylength, 1) := by decide +kernel
theorem d3 : decode yB 3 = .ok (.isub, 1) := by decide +kernel
theorem d4 : decode yB 4 = .ok (.bipush 31, 2) := by decide +kernel
theorem d6 : decode yB 6 = .ok (.iushr, 1) := by decide +kernel
theorem d7 : decode yB 7 = .ok (.i2b, 1) := by decide +kernel
theorem d8 : decode yB 8 = .ok (.ireturn, 1) := by decide +kernel
def site : List Cond := []
def tab : Cond := tabOf yN yB 2 (some .byte) site
def P (d : Addr) (B : Cell) (args : Array Value) (s : State) : Prop := args = #[.ref d, .int (Int32.ofNat B.slots.size)] ∧ Arr .byte d B s
def E (r : Option Value) (s u : State) : Prop := XT.PureE (some (.int 0)) r s u
/-- an array as long as the number of chars: LATIN1 -/
theorem law (l : Launch) (d : Addr) (B : Cell) : Law l yN 2 2 0 0 yB 2 (some .byte) site (P d B) E [] 0 0 := by
  refine Law.of_walk (plainFor_of_name (by decide +kernel)) (by decide +kernel) (by decide +kernel) (by decide) (fun _ _ h => by rw [h.1]; rfl) (fun _ U U' hal hh h => ⟨h.1, h.2.mv hal hh⟩) (fun r U U' V V' h1 hal h2 h => XT.PureE.mv r U U' V V' h1 hal h2 h) ?_
  intro p e s m args below meth c s₁ X0 hexec hbytes hml hret hlk hnm hown hh0 W hP
  obtain ⟨rfl, hB⟩ := hP
  have hB0 := hB.mv X0.warmed.alike hh0
  have c1 : Steps p.tables e below (s₁.setTop (entryFrame m #[.ref d, .int (Int32.ofNat B.slots.size)] 2)) (s₁.setTop (mkF m 0 #[.val (.ref d), .val (.int (Int32.ofNat B.slots.size))] [])) := entry rfl
  have c2 : Steps p.tables e below (s₁.setTop (entryFrame m #[.ref d, .int (Int32.ofNat B.slots.size)] 2)) (s₁.setTop (mkF m 2 #[.val (.ref d), .val (.int (Int32.ofNat B.slots.size))] [.ref d, .int (Int32.ofNat B.slots.size)])) := c1.trans (by
    refine XS.iloadN X0.here hexec rfl (hb hbytes d0) rfl ?_
    refine XS.aloadN X0.here hexec rfl (hb hbytes d1) rfl rfl ?_
    exact Steps.refl _)
  have c3 : Steps p.tables e below (s₁.setTop (entryFrame m #[.ref d, .int (Int32.ofNat B.slots.size)] 2)) (s₁.setTop (mkF m 8 #[.val (.ref d), .val (.int (Int32.ofNat B.slots.size))] [.int (lo8 (ushr (Int32.ofNat B.slots.size - Int32.ofNat B.slots.size) 31))])) := c2.trans (by
    refine X0.alen hexec hB0 rfl rfl (hb hbytes d2) ?_
    refine XS.isub X0.here hexec rfl (hb hbytes d3) rfl ?_
    refine bipushV X0.here hexec rfl 31 (hb hbytes d4) (by decide) ?_
    refine iushr X0.here hexec rfl (hb hbytes d6) rfl ?_
    refine i2b X0.here hexec rfl (hb hbytes d7) rfl ?_
    exact Steps.refl _)
  have e0 : lo8 (ushr (Int32.ofNat B.slots.size - Int32.ofNat B.slots.size) 31) = 0 := by rw [Int32.sub_self]; decide
  rw [e0] at c3
  exact ⟨s₁, some (.int 0), _, _, _, X0, rfl, rfl, rfl, (fun h => by cases h), ⟨rfl, hh0⟩, fun fs hl => c3.trans (X0.ireturnOut hexec hret rfl (Or.inr (Or.inr (Or.inl rfl))) (hb hbytes d8) hl)⟩
end CodL
/-- the String at a is Latin-1 over a new byte[] (the heap's one new cell): the low bytes of the len chars of A from o on; every cell but a is kept -/
def Got (a : Addr) (D : Cell) (fV fC : Field) (A : Cell) (o len : Nat) (r : Option Value) (s u : State) : Prop := r = none ∧ ∃ D' V : Cell, Blank "java/lang/String" a D' u ∧ Same D D' [fV.slot, fC.slot] ∧ D'.slots[fV.slot]? = some (.ref s.heap.size) ∧ D'.slots[fC.slot]? = some (.int 0) ∧ Arr .byte s.heap.size V u ∧ V.vm = .none ∧ u.vm.findClass "[B" = some V.cls ∧ V.slots.size = len ∧ (∀ j, j < len → V.slots[j]? = some (.int (lo8 (cv A (o + j))))) ∧ (∀ (y : Addr) (c : Cell), y ≠ a → s.heap[y]? = some c → u.heap[y]? = some c) ∧ u.heap.size = s.heap.size + 1
theorem Got.mv {a : Addr} {D A : Cell} {fV fC : Field} {o len : Nat} : ∀ r (U U' V V' : State), U'.heap = U.heap → V.vm.Alike V'.vm → V'.heap = V.heap → Got a D fV fC A o len r U V → Got a D fV fC A o len r U' V' :=
  fun r U U' V V' h1 hal h2 ⟨e0, D', X, a1, a2, a3, a4, a5, a6, a7, a8, a9, a10, a11⟩ => ⟨e0, D', X, a1.mv hal h2, a2, by rw [h1]; exact a3, a4, by rw [h1]; exact a5.mv hal h2, a6, by rw [hal.findClass]; exact a7, a8, a9, by rw [h1, h2]; exact a10, by rw [h1, h2]; exact a11⟩
namespace New4
def yN : MethodName := ⟨"java/lang/String", "<init>", "([CIILjava/lang/Void;)V"⟩
abbrev yB : ByteArray := jdk_42_method_149_code
theorem d0 : decode yB 0 = .ok (.aload_n 0, 1) := by decide +kernel
theorem d1 : decode yB 1 = .ok (.invokespecial 1, 3) := by decide +kernel
theorem d4 : decode yB 4 = .ok (.iload_n 3, 1) := by decide +kernel
theorem d5 : decode yB 5 = .ok (.ifCond (.ne) 22, 3) := by decide +kernel
theorem d27 : decode yB 27 = .ok (.getstatic 38, 3) := by decide +kernel
theorem d30 : decode yB 30 = .ok (.ifCond (.eq) 28, 3) := by decide +kernel
theorem d33 : decode yB 33 = .ok (.aload_n 1, 1) := by decide +kernel
theorem d34 : decode yB 34 = .ok (.iload_n 2, 1) := by decide +kernel
theorem d35 : decode yB 35 = .ok (.iload_n 3, 1) := by decide +kernel
theorem d36 : decode yB 36 = .ok (.invokestatic 177, 3) := by decide +kernel
theorem d39 : decode yB 39 = .ok (.astore 5, 2) := by decide +kernel
theorem d41 : decode yB 41 = .ok (.aload_n 0, 1) := by decide +kernel
theorem d42 : decode yB 42 = .ok (.aload 5, 2) := by decide +kernel
theorem d44 : decode yB 44 = .ok (.iload_n 3, 1) := by decide +kernel
theorem d45 : decode yB 45 = .ok (.invokestatic 47, 3) := by decide +kernel
theorem d48 : decode yB 48 = .ok (.putfield 15, 3) := by decide +kernel
theorem d51 : decode yB 51 = .ok (.aload_n 0, 1) := by decide +kernel
theorem d52 : decode yB 52 = .ok (.aload 5, 2) := by decide +kernel
theorem d54 : decode yB 54 = .ok (.putfield 9, 3) := by decide +kernel
theorem d57 : decode yB 57 = .ok (.return_, 1) := by decide +kernel
def site : List Cond := [.fieldLink "java/lang/String" 38 "java/lang/String" "COMPACT_STRINGS" "Z", Cmp3.tab, CodL.tab, .laysFinal "java/lang/String" "java/lang/String" "value" "[B", .fieldLink "java/lang/String" 9 "java/lang/String" "value" "[B", .laysFinal "java/lang/String" "java/lang/String" "coder" "B", .fieldLink "java/lang/String" 15 "java/lang/String" "coder" "B"] ++ objW "java/lang/String" 1 ++ staticW "java/lang/String" 177 Cmp3.yN ++ staticW "java/lang/String" 47 CodL.yN
def tab : Cond := tabOf yN yB 6 none site
def P (a : Addr) (D : Cell) (fV fC : Field) (b : Addr) (A : Cell) (z : Int32) (o len : Nat) (args : Array Value) (s : State) : Prop := args = #[.ref a, .ref b, .int (Int32.ofNat o), .int (Int32.ofNat len), .null] ∧ Blank "java/lang/String" a D s ∧ Found "java/lang/String" "value" "[B" fV s ∧ Found "java/lang/String" "coder" "B" fC s ∧ Ch b A s ∧ StaticIs s "java/lang/String" "COMPACT_STRINGS" "Z" (.int z) ∧ ¬ z = 0 ∧ 0 < len ∧ o + len ≤ A.slots.size ∧ len ≤ 536870912 ∧ ∀ i, i < len → ¬ 255 < cv A (o + i)
def E (a : Addr) (D : Cell) (fV fC : Field) (A : Cell) (o len : Nat) (r : Option Value) (s u : State) : Prop := Got a D fV fC A o len r s u
/-- len > 0, no char of the range above 255: a Latin-1 String of their low bytes -/
theorem law (l : Launch) (a : Addr) (D : Cell) (fV fC : Field) (b : Addr) (A : Cell) (z : Int32) (o len : Nat) : Law l yN 5 4 2 35 yB 6 none site (P a D fV fC b A z o len) (E a D fV fC A o len) [⟨a, fC.slot⟩, ⟨a, fV.slot⟩] 1 len := by
  refine Law.of_walk (plainFor_of_name (by decide +kernel)) (by decide +kernel) (by decide +kernel) (by decide) (fun _ _ h => by rw [h.1]; rfl) (fun _ U U' hal hh h => ⟨h.1, h.2.1.mv hal hh, h.2.2.1.al hal, h.2.2.2.1.al hal, h.2.2.2.2.1.mv hal hh, h.2.2.2.2.2.1.there hal hh, h.2.2.2.2.2.2⟩) (fun r U U' V V' h1 hal h2 h => Got.mv r U U' V V' h1 hal h2 h) ?_
  intro p e s m args below meth c s₁ X0 hexec hbytes hml hret hlk hnm hown hh0 W hP
  obtain ⟨rfl, hB, f1, f2, hA, s1, hz, l0, l1, l2, hp⟩ := hP
  have a31 := hA.1.2.2.2
  have c1 : Steps p.tables e below (s₁.setTop (entryFrame m #[.ref a, .ref b, .int (Int32.ofNat o), .int (Int32.ofNat len), .null] 6)) (s₁.setTop (mkF m 0 #[.val (.ref a), .val (.ref b), .val (.int (Int32.ofNat o)), .val (.int (Int32.ofNat len)), .val .null, .unset] [])) := entry rfl
  have c2 : Steps p.tables e below (s₁.setTop (entryFrame m #[.ref a, .ref b, .int (Int32.ofNat o), .int (Int32.ofNat len), .null] 6)) (s₁.setTop (mkF m 1 #[.val (.ref a), .val (.ref b), .val (.int (Int32.ofNat o)), .val (.int (Int32.ofNat len)), .val .null, .unset] [.ref a])) := c1.trans (by
    refine XS.aloadN X0.here hexec rfl (hb hbytes d0) rfl rfl ?_
    exact Steps.refl _)
  obtain ⟨T3, X3, q3, st3⟩ := X0.oinit hexec hown (wks W (objW "java/lang/String" 1)) (g := (mkF m 1 #[.val (.ref a), .val (.ref b), .val (.int (Int32.ofNat o)), .val (.int (Int32.ofNat len)), .val .null, .unset] [.ref a])) rfl (by rw [hml]; rfl) (rest := []) rfl (hb hbytes d1) (W := 0) (by show 2 * 0 + 0 ≤ _; decide) (Nat.le_of_ble_eq_true rfl) (Nat.le_of_ble_eq_true rfl)
  have hh3 := q3.trans hh0
  have c4 : Steps p.tables e below (s₁.setTop (entryFrame m #[.ref a, .ref b, .int (Int32.ofNat o), .int (Int32.ofNat len), .null] 6)) (T3.setTop (mkF m 27 #[.val (.ref a), .val (.ref b), .val (.int (Int32.ofNat o)), .val (.int (Int32.ofNat len)), .val .null, .unset] [])) := (c2.trans (st3 _ (Steps.refl _))).trans (by
    refine XS.iloadN X3.here hexec rfl (hb hbytes d4) rfl ?_
    refine XS.ifYes X3.here hexec rfl (pc0 := 5) rfl (hb hbytes d5) rfl (i0_ne_t (nz32 (by omega) l0)) (by decide) rfl ?_
    exact Steps.refl _)
  obtain ⟨T5, X5, q5, st5⟩ := X3.sget hexec hown (wk W (.fieldLink "java/lang/String" 38 "java/lang/String" "COMPACT_STRINGS" "Z")) s1 (fun _ _ h => by rw [hh3]; exact h) (g := (mkF m 27 #[.val (.ref a), .val (.ref b), .val (.int (Int32.ofNat o)), .val (.int (Int32.ofNat len)), .val .null, .unset] [])) rfl (hb hbytes d27)
  have hh5 := q5.trans hh3
  have c6 : Steps p.tables e below (s₁.setTop (entryFrame m #[.ref a, .ref b, .int (Int32.ofNat o), .int (Int32.ofNat len), .null] 6)) (T5.setTop (mkF m 30 #[.val (.ref a), .val (.ref b), .val (.int (Int32.ofNat o)), .val (.int (Int32.ofNat len)), .val .null, .unset] [.int z])) := c4.trans (st5 _ (Steps.refl _))
  have c7 : Steps p.tables e below (s₁.setTop (entryFrame m #[.ref a, .ref b, .int (Int32.ofNat o), .int (Int32.ofNat len), .null] 6)) (T5.setTop (mkF m 36 #[.val (.ref a), .val (.ref b), .val (.int (Int32.ofNat o)), .val (.int (Int32.ofNat len)), .val .null, .unset] [.int (Int32.ofNat len), .int (Int32.ofNat o), .ref b])) := c6.trans (by
    refine XS.ifNo X5.here hexec rfl (hb hbytes d30) rfl (i0_eq_f hz) ?_
    refine XS.aloadN X5.here hexec rfl (hb hbytes d33) rfl rfl ?_
    refine XS.iloadN X5.here hexec rfl (hb hbytes d34) rfl ?_
    refine XS.iloadN X5.here hexec rfl (hb hbytes d35) rfl ?_
    exact Steps.refl _)
  obtain ⟨v8, T8, X8, E8, g8⟩ := X5.callS hexec (Cmp3.law l b A o len) hown (wks W (staticW "java/lang/String" 177 Cmp3.yN)) (wk W Cmp3.tab) (W := 0) (Nat.le_of_ble_eq_true rfl) (Nat.le_of_ble_eq_true rfl) (Nat.le_refl _) (by show 0 + len ≤ len; omega) (g := (mkF m 36 #[.val (.ref a), .val (.ref b), .val (.int (Int32.ofNat o)), .val (.int (Int32.ofNat len)), .val .null, .unset] [.int (Int32.ofNat len), .int (Int32.ofNat o), .ref b])) rfl (by rw [hml]; rfl) c7 (argsL := [.ref b, .int (Int32.ofNat o), .int (Int32.ofNat len)]) (rest := []) rfl rfl (by show 2 * 0 + 0 ≤ _; decide) (hb hbytes d36) (⟨rfl, hA.mv X5.warmed.alike hh5, l1, l2, hp⟩)
  obtain ⟨e8, z8⟩ := E8
  obtain ⟨rfl, N, n1, n2, n3, n4, n5, n6⟩ := NewArr.mv _ T5 s _ _ hh5.symm (Vm.Alike.refl _) rfl e8
  rw [hh5] at z8
  have hB1 := hB.keep X8.warmed.alike (n6 _ _ hB.1)
  have hne : s.heap.size ≠ a := (Nat.ne_of_lt (Array.getElem?_eq_some_iff.mp hB.1).1).symm
  have c9 : Steps p.tables e below (s₁.setTop (entryFrame m #[.ref a, .ref b, .int (Int32.ofNat o), .int (Int32.ofNat len), .null] 6)) (T8.setTop (mkF m 39 #[.val (.ref a), .val (.ref b), .val (.int (Int32.ofNat o)), .val (.int (Int32.ofNat len)), .val .null, .unset] [.ref s.heap.size])) := g8
  have c10 : Steps p.tables e below (s₁.setTop (entryFrame m #[.ref a, .ref b, .int (Int32.ofNat o), .int (Int32.ofNat len), .null] 6)) (T8.setTop (mkF m 45 #[.val (.ref a), .val (.ref b), .val (.int (Int32.ofNat o)), .val (.int (Int32.ofNat len)), .val .null, .val (.ref s.heap.size)] [.int (Int32.ofNat N.slots.size), .ref s.heap.size, .ref a])) := by
    have hc : Steps p.tables e below (s₁.setTop (entryFrame m #[.ref a, .ref b, .int (Int32.ofNat o), .int (Int32.ofNat len), .null] 6)) (T8.setTop (mkF m 45 #[.val (.ref a), .val (.ref b), .val (.int (Int32.ofNat o)), .val (.int (Int32.ofNat len)), .val .null, .val (.ref s.heap.size)] [.int (Int32.ofNat len), .ref s.heap.size, .ref a])) := c9.trans (by
      refine XS.astore X8.here hexec rfl (hb hbytes d39) rfl rfl rfl ?_
      refine XS.aloadN X8.here hexec rfl (hb hbytes d41) rfl rfl ?_
      refine XS.aload X8.here hexec rfl (hb hbytes d42) rfl rfl ?_
      refine XS.iloadN X8.here hexec rfl (hb hbytes d44) rfl ?_
      exact Steps.refl _)
    rw [n4]; exact hc
  obtain ⟨v11, T11, X11, E11, g11⟩ := X8.callS hexec (CodL.law l s.heap.size N) hown (wks W (staticW "java/lang/String" 47 CodL.yN)) (wk W CodL.tab) (W := 1) (Nat.le_of_ble_eq_true rfl) (Nat.le_of_ble_eq_true rfl) (Nat.le_refl _) (by show 0 + len + 0 ≤ len; omega) (g := (mkF m 45 #[.val (.ref a), .val (.ref b), .val (.int (Int32.ofNat o)), .val (.int (Int32.ofNat len)), .val .null, .val (.ref s.heap.size)] [.int (Int32.ofNat N.slots.size), .ref s.heap.size, .ref a])) rfl (by rw [hml]; rfl) c10 (argsL := [.ref s.heap.size, .int (Int32.ofNat N.slots.size)]) (rest := [.ref a]) rfl rfl (by show 2 * 0 + (1 + 0) ≤ _; decide) (hb hbytes d45) (⟨rfl, n1⟩)
  obtain ⟨rfl, q11⟩ := E11
  have hB11 := hB1.mv (X8.warmed.alike.symm.trans X11.warmed.alike) q11
  have c12 : Steps p.tables e below (s₁.setTop (entryFrame m #[.ref a, .ref b, .int (Int32.ofNat o), .int (Int32.ofNat len), .null] 6)) (T11.setTop (mkF m 48 #[.val (.ref a), .val (.ref b), .val (.int (Int32.ofNat o)), .val (.int (Int32.ofNat len)), .val .null, .val (.ref s.heap.size)] [.int 0, .ref a])) := g11
  obtain ⟨T13, X13, p13, bl13, sl13, st13⟩ := X11.finit hexec hown (wk W (.fieldLink "java/lang/String" 15 "java/lang/String" "coder" "B")) (Or.inr ⟨_, (wk W (.laysFinal "java/lang/String" "java/lang/String" "coder" "B"))⟩) (Or.inl ⟨rfl, hnm⟩) f2 (Or.inl rfl) hB11 (t := .byte) (by decide +kernel) rfl (g := (mkF m 48 #[.val (.ref a), .val (.ref b), .val (.int (Int32.ofNat o)), .val (.int (Int32.ofNat len)), .val .null, .val (.ref s.heap.size)] [.int 0, .ref a])) rfl (rest := []) rfl (hb hbytes d48)
  have c14 : Steps p.tables e below (s₁.setTop (entryFrame m #[.ref a, .ref b, .int (Int32.ofNat o), .int (Int32.ofNat len), .null] 6)) (T13.setTop (mkF m 54 #[.val (.ref a), .val (.ref b), .val (.int (Int32.ofNat o)), .val (.int (Int32.ofNat len)), .val .null, .val (.ref s.heap.size)] [.ref s.heap.size, .ref a])) := (c12.trans (st13 _ (Steps.refl _))).trans (by
    refine XS.aloadN X13.here hexec rfl (hb hbytes d51) rfl rfl ?_
    refine XS.aload X13.here hexec rfl (hb hbytes d52) rfl rfl ?_
    exact Steps.refl _)
  obtain ⟨T15, X15, p15, bl15, sl15, st15⟩ := X13.finit hexec hown (wk W (.fieldLink "java/lang/String" 9 "java/lang/String" "value" "[B")) (Or.inr ⟨_, (wk W (.laysFinal "java/lang/String" "java/lang/String" "value" "[B"))⟩) (Or.inl ⟨rfl, hnm⟩) f1 (Or.inl rfl) bl13 (t := (.array .byte)) (by decide +kernel) rfl (g := (mkF m 54 #[.val (.ref a), .val (.ref b), .val (.int (Int32.ofNat o)), .val (.int (Int32.ofNat len)), .val .null, .val (.ref s.heap.size)] [.ref s.heap.size, .ref a])) rfl (rest := []) rfl (hb hbytes d54)
  have c16 : Steps p.tables e below (s₁.setTop (entryFrame m #[.ref a, .ref b, .int (Int32.ofNat o), .int (Int32.ofNat len), .null] 6)) (T15.setTop (mkF m 57 #[.val (.ref a), .val (.ref b), .val (.int (Int32.ofNat o)), .val (.int (Int32.ofNat len)), .val .null, .val (.ref s.heap.size)] [])) := c14.trans (st15 _ (Steps.refl _))
  have ap := apart (Or.inr ⟨_, (wk W (.laysFinal "java/lang/String" "java/lang/String" "value" "[B"))⟩) (Or.inr ⟨_, (wk W (.laysFinal "java/lang/String" "java/lang/String" "coder" "B"))⟩) f1 f2 (t₁ := .array .byte) (t₂ := .byte) (by decide +kernel) (by decide +kernel) (by decide)
  have al := X8.warmed.alike.symm.trans X15.warmed.alike
  have n7 : T11.heap[s.heap.size]? = some N := by rw [q11]; exact n1.1
  exact ⟨T15, none, _, _, _, X15, by simp, rfl, by omega, (fun _ => rfl), ⟨rfl, _, N, bl15, ((Same.refl D _).set _ (by simp)).set _ (by simp), sl15, (Cell.slots_setSlot_ne _ ap).trans sl13, n1.keep al (p15.other hne (p13.other hne n7)), n2, by rw [al.findClass]; exact n3, n4, n5, fun y c h1 h2 => p15.other h1 (p13.other h1 (by rw [q11]; exact n6 y c h2)), by rw [p15.2.2, p13.2.2, q11]; exact z8⟩, fun fs hl => c16.trans (X15.returnOut hexec hret (hb hbytes d57) hl)⟩
end New4
namespace New1
def yN : MethodName := ⟨"java/lang/String", "<init>", "([C)V"⟩
abbrev yB : ByteArray := jdk_42_method_3_code
theorem d0 : decode yB 0 = .ok (.aload_n 0, 1) := by decide +kernel
theorem d1 : decode yB 1 = .ok (.aload_n 1, 1) := by decide +kernel
theorem d2 : decode yB 2 = .ok (.iconst 0, 1) := by decide +kernel
theorem d3 : decode yB 3 = .ok (.aload_n 1, 1) := by decide +kernel
theorem d4 : decode yB 4 = .ok (.arraylength, 1) := by decide +kernel
theorem d5 : decode yB 5 = .ok (.aconst_null, 1) := by decide +kernel
theorem d6 : decode yB 6 = .ok (.invokespecial 27, 3) := by decide +kernel
theorem d9 : decode yB 9 = .ok (.return_, 1) := by decide +kernel
def site : List Cond := [New4.tab] ++ initW "java/lang/String" 27 New4.yN
def tab : Cond := tabOf yN yB 2 none site
def P (a : Addr) (D : Cell) (fV fC : Field) (b : Addr) (A : Cell) (z : Int32) (args : Array Value) (s : State) : Prop := args = #[.ref a, .ref b] ∧ Blank "java/lang/String" a D s ∧ Found "java/lang/String" "value" "[B" fV s ∧ Found "java/lang/String" "coder" "B" fC s ∧ Ch b A s ∧ StaticIs s "java/lang/String" "COMPACT_STRINGS" "Z" (.int z) ∧ ¬ z = 0 ∧ 0 < A.slots.size ∧ A.slots.size ≤ 536870912 ∧ ∀ i, i < A.slots.size → ¬ 255 < cv A i
def E (a : Addr) (D : Cell) (fV fC : Field) (A : Cell) (r : Option Value) (s u : State) : Prop := Got a D fV fC A 0 A.slots.size r s u
/-- new String(chars), not empty, no char above 255: a Latin-1 String of their low bytes -/
theorem law (l : Launch) (a : Addr) (D : Cell) (fV fC : Field) (b : Addr) (A : Cell) (z : Int32) : Law l yN 2 1 3 52 yB 2 none site (P a D fV fC b A z) (E a D fV fC A) [⟨a, fC.slot⟩, ⟨a, fV.slot⟩] 1 A.slots.size := by
  refine Law.of_walk (plainFor_of_name (by decide +kernel)) (by decide +kernel) (by decide +kernel) (by decide) (fun _ _ h => by rw [h.1]; rfl) (fun _ U U' hal hh h => ⟨h.1, h.2.1.mv hal hh, h.2.2.1.al hal, h.2.2.2.1.al hal, h.2.2.2.2.1.mv hal hh, h.2.2.2.2.2.1.there hal hh, h.2.2.2.2.2.2⟩) (fun r U U' V V' h1 hal h2 h => Got.mv r U U' V V' h1 hal h2 h) ?_
  intro p e s m args below meth c s₁ X0 hexec hbytes hml hret hlk hnm hown hh0 W hP
  obtain ⟨rfl, hB, f1, f2, hA, s1, hz, l0, l2, hp⟩ := hP
  have c1 : Steps p.tables e below (s₁.setTop (entryFrame m #[.ref a, .ref b] 2)) (s₁.setTop (mkF m 0 #[.val (.ref a), .val (.ref b)] [])) := entry rfl
  have c2 : Steps p.tables e below (s₁.setTop (entryFrame m #[.ref a, .ref b] 2)) (s₁.setTop (mkF m 6 #[.val (.ref a), .val (.ref b)] [.null, .int (Int32.ofNat A.slots.size), .int 0, .ref b, .ref a])) := c1.trans (by
    refine XS.aloadN X0.here hexec rfl (hb hbytes d0) rfl rfl ?_
    refine XS.aloadN X0.here hexec rfl (hb hbytes d1) rfl rfl ?_
    refine iconstV X0.here hexec rfl 0 (hb hbytes d2) (by decide) ?_
    refine XS.aloadN X0.here hexec rfl (hb hbytes d3) rfl rfl ?_
    refine X0.alen hexec (hA.1.mv X0.warmed.alike hh0) rfl rfl (hb hbytes d4) ?_
    refine XS.aconstNull X0.here hexec rfl (hb hbytes d5) ?_
    exact Steps.refl _)
  obtain ⟨v3, T3, X3, E3, g3⟩ := X0.callN hexec (New4.law l a D fV fC b A z 0 A.slots.size) rfl hown (wks W (initW "java/lang/String" 27 New4.yN)) (W New4.tab (by simp only [site, List.mem_cons, List.mem_append, true_or, or_true])) (W := 0) (Nat.le_of_ble_eq_true rfl) (Nat.le_of_ble_eq_true rfl) (Nat.le_refl _) (by show 0 + A.slots.size ≤ A.slots.size; omega) (g := (mkF m 6 #[.val (.ref a), .val (.ref b)] [.null, .int (Int32.ofNat A.slots.size), .int (Int32.ofNat 0), .ref b, .ref a])) rfl (by rw [hml]; rfl) c2 (argsL := [.ref b, .int (Int32.ofNat 0), .int (Int32.ofNat A.slots.size), .null]) (rest := []) rfl rfl (by show 2 * 0 + 0 ≤ _; decide) (hb hbytes d6) (⟨rfl, hB.mv X0.warmed.alike hh0, f1.al X0.warmed.alike, f2.al X0.warmed.alike, hA.mv X0.warmed.alike hh0, s1.there X0.warmed.alike hh0, hz, l0, by omega, l2, fun i hi => by rw [Nat.zero_add]; exact hp i hi⟩)
  have e0 := Got.mv _ s₁ s _ _ hh0.symm (Vm.Alike.refl _) rfl E3
  obtain rfl := e0.1
  have c4 : Steps p.tables e below (s₁.setTop (entryFrame m #[.ref a, .ref b] 2)) (T3.setTop (mkF m 9 #[.val (.ref a), .val (.ref b)] [])) := g3
  exact ⟨T3, none, _, _, _, X3, by simp, rfl, by omega, (fun _ => rfl), e0, fun fs hl => c4.trans (X3.returnOut hexec hret (hb hbytes d9) hl)⟩
theorem pays {l : Launch} {R : Room} {p : Program} {e : Env} {below : List Frame} {s : State} {sargs : Array Value} {len W : Nat} (a : Addr) (D : Cell) (fV fC : Field) (b : Addr) (A : Cell) (z : Int32) (htab : tab.before sargs s = true) (hfr : 4 ≤ R.frames) (hlo : W + 65 ≤ R.locals) :
    Back l R p e below s sargs yN len W (fun A₁ a₁ => A₁.cells + 1 ≤ R.cells ∧ A₁.slots + A.slots.size ≤ R.slots ∧ P a D fV fC b A z a₁ A₁.U) (fun A₁ _ v₁ B₁ => E a D fV fC A v₁ A₁.U B₁.U ∧ B₁.locs = A₁.locs ++ [⟨a, fC.slot⟩, ⟨a, fV.slot⟩] ∧ B₁.cells = A₁.cells + 1 ∧ B₁.slots = A₁.slots + A.slots.size) :=
  (law l a D fV fC b A z).pays htab hfr (by omega)
end New1
/-- the byte, read back as charAt reads it, is the char -/
theorem lo8_mask {x : Int32} (h0 : ¬ x < 0) (h1 : ¬ 255 < x) : lo8 x &&& 255 = x := by
  have t : ∀ k : Fin 256, lo8 (Int32.ofNat k.val) &&& 255 = Int32.ofNat k.val := by decide +kernel
  rw [Int32.lt_iff_toInt_lt] at h0 h1
  have e0 : (0 : Int32).toInt = 0 := rfl
  have e1 : (255 : Int32).toInt = 255 := rfl
  obtain ⟨k, hk⟩ : ∃ k : Nat, x.toInt = k := ⟨x.toInt.toNat, by omega⟩
  have hx : x = Int32.ofNat k := Int32.toInt_inj.mp (by rw [hk, Int32.toInt_ofNat_small (by omega)])
  rw [hx]
  exact t ⟨k, by omega⟩
end StrChars
namespace StrChars.Road
open Jvm Sem ClassFile Op Lib Jvm.Stand Jvm.Free Jvm.Free.XT
open Jvm.Lib.Cold (StaticIs)
abbrev ST : String := "java/lang/String"
/-- every table word that New1's law asks, flat -/
abbrev words : List Jvm.Cond := [.code New1.yN New1.yB 2 none, .initialized ST, .methodLink ST 27 New4.yN, .instanceMethod New4.yN,
  .code New4.yN New4.yB 6 none, .fieldLink ST 38 ST "COMPACT_STRINGS" "Z", .laysFinal ST ST "value" "[B", .fieldLink ST 9 ST "value" "[B", .laysFinal ST ST "coder" "B", .fieldLink ST 15 ST "coder" "B",
  .methodLink ST 1 Lib.objectInit, .instanceMethod Lib.objectInit, .code Lib.objectInit ⟨#[0xb1]⟩ 1 none, .methodLink ST 177 Cmp3.yN, .static Cmp3.yN, .methodLink ST 47 CodL.yN, .static CodL.yN,
  .code Cmp3.yN Cmp3.yB 6 (some (.array .byte)), .initialized U16, .arrayClass .byte, .methodLink U16 115 Cmp5.yN, .static Cmp5.yN, .code Cmp5.yN Cmp5.yB 7 (some .int), .code CodL.yN CodL.yB 2 (some .byte)]
theorem tab_of {a : Array Value} {s : State} (h : ∀ w ∈ words, w.before a s = true) : New1.tab.before a s = true := by
  have h5 : Cmp5.tab.before a s = true := unparts (wk h (.code Cmp5.yN Cmp5.yB 7 (some .int))) (wks h (.initialized Cmp5.yN.cls :: Cmp5.site))
  have hc : CodL.tab.before a s = true := unparts (wk h (.code CodL.yN CodL.yB 2 (some .byte))) (wks h (.initialized CodL.yN.cls :: CodL.site))
  have q5 : ∀ w ∈ Cmp5.tab :: words, w.before a s = true := fun w hw => (List.mem_cons.mp hw).elim (fun e => e ▸ h5) (h w)
  have h3 : Cmp3.tab.before a s = true := unparts (wk q5 (.code Cmp3.yN Cmp3.yB 6 (some (.array .byte)))) (wks q5 (.initialized Cmp3.yN.cls :: Cmp3.site))
  have q3 : ∀ w ∈ Cmp3.tab :: CodL.tab :: words, w.before a s = true := fun w hw => (List.mem_cons.mp hw).elim (fun e => e ▸ h3) fun hw => (List.mem_cons.mp hw).elim (fun e => e ▸ hc) (h w)
  have h4 : New4.tab.before a s = true := unparts (wk q3 (.code New4.yN New4.yB 6 none)) (wks q3 (.initialized New4.yN.cls :: New4.site))
  have q4 : ∀ w ∈ New4.tab :: words, w.before a s = true := fun w hw => (List.mem_cons.mp hw).elim (fun e => e ▸ h4) (h w)
  exact unparts (wk q4 (.code New1.yN New1.yB 2 none)) (wks q4 (.initialized New1.yN.cls :: New1.site))
/-- the words ride from the start Z to the walk's own state -/
theorem moved {Z s : State} {a0 args : Array Value} (hZ : Z.Warmed39 s.vm) (hw : ∀ d ∈ words, d.before a0 Z = true) : ∀ d ∈ words, d.before args s = true := fun d hd => by
  have q := hw d hd
  have t : ∀ d ∈ words, d = .arrayClass .byte ∨ (d.onTables && d.keepsFace) = true := by decide +kernel
  rcases t d hd with rfl | t
  · exact RoadKit.mvA hZ q
  · exact RoadKit.mv hZ q t
/-- WHAT COMES BACK, over the tables of the start Z: h the heap at the call, h' behind it -/
def Q (Z : State) (x : Addr) (A : Cell) (h : Heap) (v : Option Value) (h' : Heap) (L : List Loc) : Prop := v = none ∧ (∀ y ∈ L, y.base = x) ∧ RoadKit.Keep h h' [x] ∧ h'.size = h.size + 1 ∧ RoadKit.Exa Z h' x ST ∧ RoadKit.Fld Z h' x ST "value" "[B" (.ref h.size) ∧ RoadKit.Fld Z h' x ST "coder" "B" (.int 0) ∧
  (∃ V : Cell, RoadKit.Arr Z h' h.size V .byte ∧ V.vm = .none ∧ Z.vm.findClass "[B" = some V.cls ∧ V.slots.size = A.slots.size ∧ ∀ j, j < A.slots.size → V.slots[j]? = some (.int (lo8 (cv A j)))) ∧
  ∀ (O n d : String) (w : Value), RoadKit.Fld Z h x O n d w → RoadKit.slotOf Z O n d ≠ RoadKit.slotOf Z ST "value" "[B" → RoadKit.slotOf Z O n d ≠ RoadKit.slotOf Z ST "coder" "B" → RoadKit.Fld Z h' x O n d w
/-- **new String(chars) AT A CALL, IN THE ROAD'S FORM**: for specialBack behind newO: x the fresh String, b the char[] with the cell A -/
theorem back {p : Program} {l : Launch} {e : Env} {R : Room} {s : State} {args : Array Value} {below : List Frame} {len W : Nat} {Z : State} {a0 : Array Value} {h : Heap} (hZ : Z.Warmed39 s.vm) (hw : ∀ d ∈ words, d.before a0 Z = true) {kI : Nat} (wi : (Jvm.Cond.instantiable ST kI).before a0 Z = true)
    {x b : Addr} {A : Cell} {z : Int32} {v0 c0 : Value} (E : RoadKit.Exa Z h x ST) (V : RoadKit.Fld Z h x ST "value" "[B" v0) (C : RoadKit.Fld Z h x ST "coder" "B" c0) (K : RoadKit.Arr Z h b A .char) (hty : Typed .char A) (S : RoadKit.Sta Z h ST "COMPACT_STRINGS" "Z" (.int z)) (hz : ¬ z = 0)
    (l0 : 0 < A.slots.size) (l2 : A.slots.size ≤ 536870912) (hp : ∀ i, i < A.slots.size → ¬ 255 < cv A i) (hfr : 4 ≤ R.frames) (hlo : W + 65 ≤ R.locals) :
    Back l R p e below s args New1.yN len W (fun P a => a = #[.ref x, .ref b] ∧ P.U.heap = h ∧ P.cells + 1 ≤ R.cells ∧ P.slots + A.slots.size ≤ R.slots)
      (fun P _ v B => ∃ L, Q Z x A h v B.U.heap L ∧ B.locs = P.locs ++ L ∧ B.cells = P.cells + 1 ∧ B.slots = P.slots + A.slots.size) := by
  intro m meth c P g ig mk a X hg hsize hdg hW hn hp'
  obtain ⟨rfl, rfl, r1, r2⟩ := hp'
  have al : Z.vm.Alike P.U.vm := hZ.alike.trans X.warmed.alike
  obtain ⟨D, cfV, kV, iV, fV, hD, gV, stV, knV, obV, asV, slV⟩ := id V
  obtain ⟨D', cfC, kC, iC, fC, hD', gC, stC, -, -, asC, slC⟩ := id C
  cases hD.symm.trans hD'
  obtain ⟨D2, kD, e1, e2, e3, e4, e5⟩ := id E
  cases hD.symm.trans e1
  obtain ⟨c2, k2, i1, i2, i3, -⟩ := Cond.instantiable_spec wi
  cases e2.symm.trans i1
  cases e3.symm.trans i2
  obtain ⟨kU, u1, u2⟩ := al.2.2 _ _ e3
  have hB : Blank ST x D P.U := ⟨hD, ⟨knV, fun q hq => by rw [hq] at obV; cases obV⟩, by rw [al.findClass]; exact e2, kU, u1, by rw [u2]; exact i3, by rw [u2]; exact e5 i3⟩
  have F1 : Found ST "value" "[B" fV P.U := ⟨SBG.found_only al ⟨cfV, kV, iV, gV⟩, stV⟩
  have F2 : Found ST "coder" "B" fC P.U := ⟨SBG.found_only al ⟨cfC, kC, iC, gC⟩, stC⟩
  have hA : Ch b A P.U := ⟨⟨K.1, State.isArrayOf_alike al K.2.1, K.2.2, by omega⟩, hty⟩
  have hS : StaticIs P.U ST "COMPACT_STRINGS" "Z" (.int z) := by
    obtain ⟨cfS, iS, kS, fS, st, cS, t1, t2, t3, t4, t5, t6, t7⟩ := S
    exact StaticIs.there (s := { Z with heap := P.U.heap }) ⟨cfS, iS, kS, fS, st, cS, t1, t2, t3, t4, t5, (fun q => by rw [q] at t6; cases t6), t7⟩ al rfl
  obtain ⟨v, B, X', ⟨⟨hv, E', V', q1, q2, q3, q4, q5, q6, q7, q8, q9, q10, q11⟩, hl, hc, hs⟩, st⟩ := New1.pays x D fV fC b A z (tab_of (moved hZ hw)) hfr hlo m meth c P g ig mk _ X hg hsize hdg hW hn ⟨r1, r2, rfl, hB, F1, F2, hA, hS, hz, l0, l2, hp⟩
  have al' : Z.vm.Alike B.U.vm := hZ.alike.trans X'.warmed.alike
  have hsz : E'.slots.size = D.slots.size := by
    obtain ⟨-, -, -, kB, w1, w2, w3⟩ := q1
    obtain ⟨kB', y1, y2⟩ := al'.2.2 _ _ e3
    rw [q2.2.1] at w1
    cases w1.symm.trans y1
    rw [w3, e5 i3, y2]
  refine ⟨v, B, X', ⟨_, ⟨hv, ?_, ⟨by omega, fun y cy hy hn' => q10 y cy (by simpa using hn') hy, fun y cy hy => ?_⟩, q11, ⟨E', _, q1.1, by rw [q2.2.1]; exact e2, by rw [q2.2.1]; exact e3, by rw [q2.1]; exact obV, fun _ => by rw [hsz]; exact e5 i3⟩,
    ⟨E', cfV, kV, iV, fV, q1.1, gV, stV, by rw [q2.1]; exact knV, by rw [q2.1]; exact obV, by rw [q2.2.1]; exact asV, q3⟩, ⟨E', cfC, kC, iC, fC, q1.1, gC, stC, by rw [q2.1]; exact knV, by rw [q2.1]; exact obV, by rw [q2.2.1]; exact asC, q4⟩,
    ⟨V', ⟨q5.1, State.isArrayOf_alike al'.symm q5.2.1, q5.2.2.1⟩, q6, by rw [← al'.findClass]; exact q7, q8, fun j hj => by have := q9 j hj; rwa [Nat.zero_add] at this⟩, fun O n d w F n1 n2 => ?_⟩, hl, hc, hs⟩, st⟩
  · intro y hy
    simp only [List.mem_cons, List.not_mem_nil, or_false] at hy
    rcases hy with rfl | rfl <;> rfl
  · by_cases q : y = x
    · subst q
      cases hD.symm.trans hy
      exact ⟨E', q1.1, q2.2.1, q2.1, hsz⟩
    · exact ⟨cy, q10 y cy q hy, rfl, rfl, rfl⟩
  · obtain ⟨D3, cf, k, i, f, g1, g2, g3, g4, g5, g6, g7⟩ := F
    cases hD.symm.trans g1
    simp only [RoadKit.slotOf, g2, gV, gC, Option.map_some, Option.getD_some] at n1 n2
    exact ⟨E', cf, k, i, f, q1.1, g2, g3, by rw [q2.1]; exact g4, by rw [q2.1]; exact g5, by rw [q2.2.1]; exact g6, by rw [q2.2.2 f.slot (by simp [n1, n2])]; exact g7⟩
end StrChars.Road
namespace StrChars.Road
open Jvm Sem ClassFile Op Lib Jvm.Stand Jvm.Free Jvm.Free.XT
/-- WHAT COMES BACK, the byte[] as a list of values -/
def QA (Z : State) (x : Addr) (zn : Int32) (cs : List Int32) (h : Heap) (v : Option Value) (h' : Heap) (L : List Loc) : Prop := v = none ∧ (∀ y ∈ L, y.base = x) ∧ RoadKit.Keep h h' [x] ∧ h'.size = h.size + 1 ∧ RoadKit.Exa Z h' x ST ∧ RoadKit.Fld Z h' x ST "value" "[B" (.ref h.size) ∧ RoadKit.Fld Z h' x ST "coder" "B" (.int 0) ∧
  (∃ kb, Z.vm.findClass "[B" = some kb ∧ RoadKit.Arv Z h' h.size kb .byte zn (cs.map fun c => .int (lo8 c)) (.int 0)) ∧
  ∀ (O n d : String) (w : Value), RoadKit.Fld Z h x O n d w → RoadKit.slotOf Z O n d ≠ RoadKit.slotOf Z ST "value" "[B" → RoadKit.slotOf Z O n d ≠ RoadKit.slotOf Z ST "coder" "B" → RoadKit.Fld Z h' x O n d w
/-- **new String(chars) AT A CALL, THE ARRAYS AS LISTS**: the char[] at b holds cs, not empty, no char above 255 -/
theorem backArv {p : Program} {l : Launch} {e : Env} {R : Room} {s : State} {args : Array Value} {below : List Frame} {len W : Nat} {Z : State} {a0 : Array Value} {h : Heap} (hZ : Z.Warmed39 s.vm) (hw : ∀ d ∈ words, d.before a0 Z = true) {kI : Nat} (wi : (Jvm.Cond.instantiable ST kI).before a0 Z = true)
    {x b : Addr} {k : ClassId} {zn z : Int32} {cs : List Int32} {dv v0 c0 : Value} (E : RoadKit.Exa Z h x ST) (V : RoadKit.Fld Z h x ST "value" "[B" v0) (C : RoadKit.Fld Z h x ST "coder" "B" c0) (K : RoadKit.Arv Z h b k .char zn (cs.map Value.int) dv) (S : RoadKit.Sta Z h ST "COMPACT_STRINGS" "Z" (.int z)) (hz : ¬ z = 0)
    (hlen : zn.toNatClampNeg = cs.length) (h0 : 0 < cs.length) (hbig : cs.length ≤ 536870912) (hall : ∀ c ∈ cs, ¬ 255 < c) (hfr : 4 ≤ R.frames) (hlo : W + 65 ≤ R.locals) :
    Back l R p e below s args New1.yN len W (fun P a => a = #[.ref x, .ref b] ∧ P.U.heap = h ∧ P.cells + 1 ≤ R.cells ∧ P.slots + cs.length ≤ R.slots)
      (fun P _ v B => ∃ L, QA Z x zn cs h v B.U.heap L ∧ B.locs = P.locs ++ L ∧ B.cells = P.cells + 1 ∧ B.slots = P.slots + cs.length) := by
  obtain ⟨A, K1, K2, K3, K4, K5, K6⟩ := K
  have e : A.slots.size = cs.length := K3.trans hlen
  have hat : ∀ (i : Nat) (hi : i < cs.length), A.slots[i]? = some (.int cs[i]) := fun i hi => by rw [K5 i (by omega)]; simp [List.getD_eq_getElem?_getD, hi]
  have hcv : ∀ (i : Nat) (hi : i < cs.length), cv A i = cs[i] := fun i hi => by unfold cv; rw [hat i hi]
  have hty : Typed .char A := fun i v hv => by
    have hi : i < A.slots.size := (Array.getElem?_eq_some_iff.mp hv).1
    have q := K5 i hi
    rw [hv] at q
    rw [Option.some.inj q]
    exact K6 i hi
  refine Back.mono (back hZ hw wi E V C K1 hty S hz (by omega) (by omega) (fun i hi => by rw [hcv i (by omega)]; exact hall _ (List.getElem_mem _)) hfr hlo) (fun P a hp => ⟨hp.1, hp.2.1, hp.2.2.1, by rw [e]; exact hp.2.2.2⟩) (fun P a v B hp hq => ?_)
  obtain ⟨L, ⟨q1, q2, q3, q4, q5, q6, q7, ⟨V', v1, v2, v3, v4, v5⟩, q9⟩, hl, hc, hs⟩ := hq
  refine ⟨L, ⟨q1, q2, q3, q4, q5, q6, q7, ⟨V'.cls, v3, V', v1, rfl, by rw [v4, e, hlen], K4, fun i hi => ?_, fun i hi => ?_⟩, q9⟩, hl, hc, by rw [hs, e]⟩
  · have hi' : i < cs.length := by omega
    rw [v5 i (by omega), hcv i hi']; simp [List.getD_eq_getElem?_getD, hi']
  · have hi' : i < cs.length := by omega
    simp only [List.getD_eq_getElem?_getD, List.getElem?_map, List.getElem?_eq_getElem hi', Option.map_some, Option.getD_some]
    exact fits_lo8 _
end StrChars.Road
namespace StrChars.Road
open Jvm Sem ClassFile Op Lib Jvm.Stand Jvm.Free Jvm.Free.XT
/-- WHAT COMES BACK, in the writer's own shape -/
def QV (Z : State) (x : Addr) (N : Int32) (bs : List Int32) (h : Heap) (n0 : Nat) (v : Option Value) (h' : Heap) (L : List Loc) : Prop := v = none ∧ RoadKit.Fr n0 L ∧ RoadKit.Keep h h' [x] ∧ RoadKit.Exa Z h' x ST ∧ RoadKit.Fld Z h' x ST "coder" "B" (.int 0) ∧
  ∃ (t : Addr) (kb : ClassId), n0 ≤ t ∧ h.size ≤ t ∧ ¬ t = x ∧ RoadKit.Fld Z h' x ST "value" "[B" (.ref t) ∧ RoadKit.Arv Z h' t kb .byte N (bs.map Value.int) (.int 0)
/-- **new String(chars) AT A CALL, FOR THE WRITER**: a char[] of n known ints, each 0 to 255 -/
theorem backV {p : Program} {l : Launch} {e : Env} {R : Room} {s : State} {args : Array Value} {below : List Frame} {len W : Nat} {Z : State} {a0 : Array Value} {h : Heap} (hZ : Z.Warmed39 s.vm) (hw : ∀ d ∈ words, d.before a0 Z = true) {kI : Nat} (wi : (Jvm.Cond.instantiable ST kI).before a0 Z = true)
    {x b : Addr} {kC : ClassId} {cs bs : List Int32} {d v0 c0 : Value} {z N : Int32} {n n0 : Nat} (hx0 : n0 ≤ x) (hh0 : n0 ≤ h.size) (E : RoadKit.Exa Z h x ST) (V : RoadKit.Fld Z h x ST "value" "[B" v0) (C : RoadKit.Fld Z h x ST "coder" "B" c0) (K : RoadKit.Arv Z h b kC .char N (cs.map Value.int) d) (S : RoadKit.Sta Z h ST "COMPACT_STRINGS" "Z" (.int z)) (hz : ¬ z = 0)
    (hn : cs.length = n) (hN : N = Int32.ofNat n) (l0 : 0 < n) (l2 : n ≤ 4000) (hp : ∀ c ∈ cs, ¬ c < 0 ∧ ¬ (255 : Int32) < c) (hb : bs = cs.map (fun c => c.toInt8.toInt32)) (hfr : 4 ≤ R.frames) (hlo : W + 65 ≤ R.locals) :
    Back l R p e below s args (⟨"java/lang/String", "<init>", "([C)V"⟩ : MethodName) len W (fun P a => a = #[.ref x, .ref b] ∧ P.U.heap = h ∧ P.cells + 1 ≤ R.cells ∧ P.slots + n ≤ R.slots)
      (fun P _ v B => ∃ L, QV Z x N bs h n0 v B.U.heap L ∧ B.locs = P.locs ++ L ∧ B.cells = P.cells + 1 ∧ B.slots = P.slots + n) := by
  subst hn hN hb
  refine Back.mono (backArv hZ hw wi E V C K S hz (n32 (by omega)) l0 (by omega) (fun c hc => (hp c hc).2) hfr hlo) (fun P a hp => hp) (fun P a v B hp hq => ?_)
  obtain ⟨L, ⟨q1, q2, q3, q4, q5, q6, q7, ⟨kb, v1, v2⟩, q9⟩, hl, hc, hs⟩ := hq
  exact ⟨L, ⟨q1, fun y hy => by rw [q2 y hy]; exact hx0, q3, q5, q7, h.size, kb, hh0, Nat.le_refl _, Nat.ne_of_gt E.lt, q6, by rw [List.map_map]; exact v2⟩, hl, hc, hs⟩
end StrChars.Road
namespace StrChars
open Jvm Sem ClassFile Op Lib Jvm.Stand Jvm.Free.XT Jvm.Free.ALB Jvm.Free.JM Jvm.Free
open Jvm.Lib.Cold (StaticIs)
def hi8 (x : Int32) : Int32 := lo8 (x >>> ((8 : Int32) &&& 31))
/-- what StringUTF16.getChar makes of two bytes -/
def pairCh (u v : Int32) : Int32 := (((u &&& 255) <<< ((0 : Int32) &&& 31)) ||| ((v &&& 255) <<< ((8 : Int32) &&& 31))).toUInt32.toUInt16.toUInt32.toInt32
theorem lo8_and (x : Int32) : (lo8 x &&& 255).toBitVec.toNat = x.toBitVec.toNat % 256 := by
  have h : (lo8 x).toBitVec = (x.toBitVec.signExtend 8).signExtend 32 := by rw [lo8, Int8.toBitVec_toInt32, Int32.toBitVec_toInt8]
  rw [Int32.toBitVec_and, BitVec.toNat_and, h]
  have e : ((x.toBitVec.signExtend 8).signExtend 32).toNat % 256 = x.toBitVec.toNat % 256 := by
    rw [BitVec.toNat_signExtend]
    have hlt := x.toBitVec.isLt
    simp only [BitVec.toNat_setWidth, BitVec.toNat_signExtend]
    split <;> split <;> omega
  rw [← e]
  exact Nat.and_two_pow_sub_one_eq_mod _ 8
theorem pair_says {c : Int32} (h0 : ¬ c < 0) (h1 : ¬ 65535 < c) : pairCh (lo8 c) (hi8 c) = c := by
  rw [Int32.lt_iff_toInt_lt] at h0 h1
  have e0 : (0 : Int32).toInt = 0 := rfl
  have e1 : (65535 : Int32).toInt = 65535 := rfl
  have hc : c.toInt = c.toBitVec.toNat := by
    have := c.toBitVec.isLt
    have e : c.toInt = c.toBitVec.toInt := rfl
    rw [e] at h0 h1
    rw [e]
    rw [BitVec.toInt_eq_toNat_cond] at h0 h1 ⊢
    split at h0 <;> split <;> omega
  have hn : c.toBitVec.toNat < 65536 := by omega
  have a1 := lo8_and c
  have a2 : (hi8 c &&& 255).toBitVec.toNat = c.toBitVec.toNat / 256 := by
    rw [hi8, lo8_and]
    have e : ((8 : Int32) &&& 31) = 8 := by decide
    rw [e, Int32.toBitVec_shiftRight]
    have e2 : ((8 : Int32).toBitVec.smod 32) = 8#32 := by decide
    rw [e2, BitVec.sshiftRight_eq', BitVec.toNat_sshiftRight_of_msb_false (by rw [BitVec.msb_eq_false_iff_two_mul_lt]; omega)]
    show c.toBitVec.toNat >>> 8 % 256 = _
    rw [Nat.shiftRight_eq_div_pow]
    omega
  unfold pairCh
  apply Int32.toBitVec_inj.mp
  apply BitVec.eq_of_toNat_eq
  have f0 : ((0 : Int32) &&& 31) = 0 := by decide
  have f8 : ((8 : Int32) &&& 31) = 8 := by decide
  rw [f0, f8]
  have g : (((lo8 c &&& 255) <<< (0 : Int32)) ||| ((hi8 c &&& 255) <<< (8 : Int32))).toBitVec.toNat = c.toBitVec.toNat := by
    rw [Int32.toBitVec_or, Int32.toBitVec_shiftLeft, Int32.toBitVec_shiftLeft]
    have s0 : ((0 : Int32).toBitVec.smod 32) = 0#32 := by decide
    have s8 : ((8 : Int32).toBitVec.smod 32) = 8#32 := by decide
    rw [s0, s8, BitVec.toNat_or]
    simp only [BitVec.shiftLeft_eq', BitVec.toNat_shiftLeft, a1, a2]
    show (c.toBitVec.toNat % 256) <<< 0 % 2 ^ 32 ||| (c.toBitVec.toNat / 256) <<< 8 % 2 ^ 32 = _
    rw [Nat.shiftLeft_zero, Nat.mod_eq_of_lt (show c.toBitVec.toNat % 256 < 2 ^ 32 by omega), Nat.mod_eq_of_lt (show (c.toBitVec.toNat / 256) <<< 8 < 2 ^ 32 by rw [Nat.shiftLeft_eq]; omega), Nat.or_comm, ← Nat.shiftLeft_add_eq_or_of_lt (by omega), Nat.shiftLeft_eq]
    omega
  show BitVec.toNat (((((lo8 c &&& 255) <<< (0 : Int32)) ||| ((hi8 c &&& 255) <<< (8 : Int32))).toBitVec.setWidth 16).setWidth 32) = _
  rw [BitVec.toNat_setWidth, BitVec.toNat_setWidth, g]
  omega
end StrChars
namespace StrChars
open Jvm Sem ClassFile Op Lib Jvm.Stand Jvm.Free.XT Jvm.Free.ALB Jvm.Free.JM Jvm.Free
open Jvm.Lib.Cold (StaticIs)
/-- the array's cell V codes the n chars f 0 .. f (n - 1) by the coder cd, as the JDK does: coder 1 just where some char is above 255 -/
def Cod (cd : Int32) (n : Nat) (f : Nat → Int32) (V : Cell) : Prop := (cd = 0 ∧ V.slots.size = n ∧ ∀ j, j < n → V.slots[j]? = some (.int (lo8 (f j))) ∧ ¬ 255 < f j) ∨ (cd = 1 ∧ V.slots.size = 2 * n ∧ (∀ j, j < n → V.slots[2 * j]? = some (.int (lo8 (f j))) ∧ V.slots[2 * j + 1]? = some (.int (hi8 (f j)))) ∧ ∃ j, j < n ∧ 255 < f j)
/-- **x is a String of the n chars f 0 .. f (n - 1)**, Latin-1 or UTF-16; its array at t has the cell V -/
def Txt (x t : Addr) (V : Cell) (cd : Int32) (n : Nat) (f : Nat → Int32) (U : State) : Prop := Exact "java/lang/String" x U ∧ Has x "java/lang/String" "value" "[B" (.ref t) U ∧ Has x "java/lang/String" "coder" "B" (.int cd) U ∧ XT.Arr .byte t V U ∧ Cod cd n f V ∧ ∀ j, j < n → ¬ f j < 0 ∧ ¬ 65535 < f j
theorem Txt.mv {x t : Addr} {V : Cell} {cd : Int32} {n : Nat} {f : Nat → Int32} {U U' : State} (h : Txt x t V cd n f U) (hal : U.vm.Alike U'.vm) (hh : U'.heap = U.heap) : Txt x t V cd n f U' := ⟨h.1.mv hal hh, h.2.1.mv hal hh, h.2.2.1.mv hal hh, h.2.2.2.1.mv hal hh, h.2.2.2.2⟩
end StrChars
namespace StrChars.Road
open Jvm Sem ClassFile Op Lib Jvm.Stand Jvm.Free Jvm.Free.XT
open Jvm.Lib.Cold (StaticIs)
theorem consq {a : Array Value} {s : State} {c : Jvm.Cond} {L : List Jvm.Cond} (h0 : c.before a s = true) (h : ∀ w ∈ L, w.before a s = true) : ∀ w ∈ c :: L, w.before a s = true := fun w hw => (List.mem_cons.mp hw).elim (fun e => e ▸ h0) (h w)
/-- the bytes of the chars cs, low before high -/
def wideBytes : List Int32 → List Value
  | [] => []
  | c :: cs => .int (lo8 c) :: .int (hi8 c) :: wideBytes cs
theorem wide_lo (d : Value) : ∀ (cs : List Int32) (j : Nat), j < cs.length → (wideBytes cs).getD (2 * j) d = .int (lo8 (cs.getD j 0))
  | [], j, h => absurd h (Nat.not_lt_zero j)
  | c :: cs, 0, _ => rfl
  | c :: cs, j + 1, h => by
    have q := wide_lo d cs j (by simpa using h)
    rw [show 2 * (j + 1) = 2 * j + 1 + 1 from by omega]
    simpa [wideBytes] using q
theorem wide_hi (d : Value) : ∀ (cs : List Int32) (j : Nat), j < cs.length → (wideBytes cs).getD (2 * j + 1) d = .int (hi8 (cs.getD j 0))
  | [], j, h => absurd h (Nat.not_lt_zero j)
  | c :: cs, 0, _ => rfl
  | c :: cs, j + 1, h => by
    have q := wide_hi d cs j (by simpa using h)
    rw [show 2 * (j + 1) + 1 = 2 * j + 1 + 1 + 1 from by omega]
    simpa [wideBytes] using q
theorem low_at (d : Value) (cs : List Int32) (j : Nat) (h : j < cs.length) : (cs.map fun c => Value.int (lo8 c)).getD j d = .int (lo8 (cs.getD j 0)) := by
  simp [List.getD_eq_getElem?_getD, h]
/-- an array of N2 bytes vs codes the chars cs by the coder cd -/
def CodA (cs : List Int32) (cd N2 : Int32) (vs : List Value) : Prop := (cd = 0 ∧ N2 = Int32.ofNat cs.length ∧ vs = (cs.map fun c => Value.int (lo8 c)) ∧ ∀ c ∈ cs, ¬ 255 < c) ∨ (cd = 1 ∧ N2 = Int32.ofNat (2 * cs.length) ∧ vs = wideBytes cs ∧ ∃ c ∈ cs, 255 < c)
theorem CodA.cod {cs : List Int32} {cd N2 : Int32} {vs : List Value} {V : Cell} (h : CodA cs cd N2 vs) (hn : 2 * cs.length < 2 ^ 31) (hs : V.slots.size = N2.toNatClampNeg) (hv : RoadKit.Has V vs (.int 0)) : Cod cd cs.length (fun j => cs.getD j 0) V := by
  rcases h with ⟨rfl, rfl, rfl, h⟩ | ⟨rfl, rfl, rfl, c, hc, hw⟩
  · rw [n32 (by omega)] at hs
    exact Or.inl ⟨rfl, hs, fun j hj => ⟨by rw [hv j (by omega), low_at _ _ _ hj], by
      have e : cs.getD j 0 = cs[j] := by simp [List.getD_eq_getElem?_getD, hj]
      show ¬ 255 < cs.getD j 0
      rw [e]; exact h _ (List.getElem_mem _)⟩⟩
  · rw [n32 (by omega)] at hs
    obtain ⟨j, hj, rfl⟩ := List.getElem_of_mem hc
    exact Or.inr ⟨rfl, hs, fun j hj => ⟨by rw [hv _ (by omega), wide_lo _ _ _ hj], by rw [hv _ (by omega), wide_hi _ _ _ hj]⟩, j, hj, by
      have e : cs.getD j 0 = cs[j] := by simp [List.getD_eq_getElem?_getD, hj]
      show 255 < cs.getD j 0
      rw [e]; exact hw⟩
/-- an object of exactly java/lang/String, its two fields found: as the laws ask it -/
theorem strObj {Z U : State} {a0 : Array Value} {kI : Nat} (wi : (Jvm.Cond.instantiable ST kI).before a0 Z = true) (al : Z.vm.Alike U.vm) {x : Addr} {v0 c0 : Value} (E : RoadKit.Exa Z U.heap x ST) (V : RoadKit.Fld Z U.heap x ST "value" "[B" v0) (C : RoadKit.Fld Z U.heap x ST "coder" "B" c0) :
    ∃ (D : Cell) (fV fC : Field), Blank ST x D U ∧ Found ST "value" "[B" fV U ∧ Found ST "coder" "B" fC U ∧ D.slots[fV.slot]? = some v0 ∧ D.slots[fC.slot]? = some c0 ∧ RoadKit.slotOf Z ST "value" "[B" = fV.slot ∧ RoadKit.slotOf Z ST "coder" "B" = fC.slot := by
  obtain ⟨D, cfV, kV, iV, fV, hD, gV, stV, knV, obV, asV, slV⟩ := V
  obtain ⟨D', cfC, kC, iC, fC, hD', gC, stC, -, -, asC, slC⟩ := C
  cases hD.symm.trans hD'
  obtain ⟨D2, kD, e1, e2, e3, e4, e5⟩ := E
  cases hD.symm.trans e1
  obtain ⟨c2, k2, i1, i2, i3, -⟩ := Cond.instantiable_spec wi
  cases e2.symm.trans i1
  cases e3.symm.trans i2
  obtain ⟨kU, u1, u2⟩ := al.2.2 _ _ e3
  exact ⟨D, fV, fC, ⟨hD, ⟨knV, fun q hq => by rw [hq] at obV; cases obV⟩, by rw [al.findClass]; exact e2, kU, u1, by rw [u2]; exact i3, by rw [u2]; exact e5 i3⟩, ⟨SBG.found_only al ⟨cfV, kV, iV, gV⟩, stV⟩, ⟨SBG.found_only al ⟨cfC, kC, iC, gC⟩, stC⟩, slV, slC, by simp [RoadKit.slotOf, gV], by simp [RoadKit.slotOf, gC]⟩
theorem sta_is {Z U : State} (al : Z.vm.Alike U.vm) {C n d : String} {v : Value} (S : RoadKit.Sta Z U.heap C n d v) : StaticIs U C n d v := by
  obtain ⟨cfS, iS, kS, fS, st, cS, t1, t2, t3, t4, t5, t6, t7⟩ := S
  exact StaticIs.there (s := { Z with heap := U.heap }) ⟨cfS, iS, kS, fS, st, cS, t1, t2, t3, t4, t5, (fun q => by rw [q] at t6; cases t6), t7⟩ al rfl
end StrChars.Road
namespace StrChars
open Jvm Sem ClassFile Op Lib Jvm.Stand Jvm.Free.XT Jvm.Free.ALB Jvm.Free.JM Jvm.Free
open Jvm.Lib.Cold (StaticIs)
namespace Emp
def yN : MethodName := ⟨"java/lang/String", "isEmpty", "()Z"⟩
abbrev yB : ByteArray := jdk_42_method_55_code
theorem d0 : decode yB 0 = .ok (.aload_n 0, 1) := by decide +kernel
theorem d1 : decode yB 1 = .ok (.getfield 9, 3) := by decide +kernel
theorem d4 : decode yB 4 = .ok (.arraylength, 1) := by decide +kernel
theorem d5 : decode yB 5 = .ok (.ifCond (.ne) 7, 3) := by decide +kernel
theorem d8 : decode yB 8 = .ok (.iconst 1, 1) := by decide +kernel
theorem d9 : decode yB 9 = .ok (.goto 4, 3) := by decide +kernel
theorem d12 : decode yB 12 = .ok (.iconst 0, 1) := by decide +kernel
theorem d13 : decode yB 13 = .ok (.ireturn, 1) := by decide +kernel
def site : List Cond := [.fieldLink "java/lang/String" 9 "java/lang/String" "value" "[B"]
def tab : Cond := tabOf yN yB 1 (some .boolean) site
def P (x t : Addr) (V : Cell) (cd : Int32) (n : Nat) (f : Nat → Int32) (args : Array Value) (s : State) : Prop := args = #[.ref x] ∧ Txt x t V cd n f s
def E (n : Nat) (r : Option Value) (s u : State) : Prop := XT.PureE (some (.int (if n = 0 then 1 else 0))) r s u
/-- isEmpty() of a String of n chars -/
theorem law (l : Launch) (x t : Addr) (V : Cell) (cd : Int32) (n : Nat) (f : Nat → Int32) : Law l yN 1 0 0 0 yB 1 (some .boolean) site (P x t V cd n f) (E n) [] 0 0 := by
  refine Law.of_walk (plainFor_of_name (by decide +kernel)) (by decide +kernel) (by decide +kernel) (by decide) (fun _ _ h => by rw [h.1]; rfl) (fun _ U U' hal hh h => ⟨h.1, h.2.mv hal hh⟩) (fun r U U' V V' h1 hal h2 h => XT.PureE.mv r U U' V V' h1 hal h2 h) ?_
  intro p e s m args below meth c s₁ X0 hexec hbytes hml hret hlk hnm hown hh0 W hP
  obtain ⟨rfl, hx⟩ := hP
  have v31 := hx.2.2.2.1.2.2.2
  have c1 : Steps p.tables e below (s₁.setTop (entryFrame m #[.ref x] 1)) (s₁.setTop (mkF m 1 #[.val (.ref x)] [.ref x])) := Steps.trans (entry rfl) (by
    show Steps p.tables e below (s₁.setTop (mkF m 0 #[.val (.ref x)] [])) _
    refine XS.aloadN X0.here hexec rfl (hb hbytes d0) rfl rfl ?_
    exact Steps.refl _)
  obtain ⟨T2, X2, q2, st2⟩ := X0.hget hexec hown (wk W (.fieldLink "java/lang/String" 9 "java/lang/String" "value" "[B")) (hx.mv X0.warmed.alike hh0).2.1 (g := (mkF m 1 #[.val (.ref x)] [.ref x])) rfl (rest := []) rfl (hb hbytes d1)
  have hh2 := q2.trans hh0
  have hx2 := hx.mv X2.warmed.alike hh2
  have c3 : Steps p.tables e below (s₁.setTop (entryFrame m #[.ref x] 1)) (T2.setTop (mkF m 5 #[.val (.ref x)] [.int (Int32.ofNat V.slots.size)])) := (c1.trans (st2 _ (Steps.refl _))).trans (by
    refine X2.alen hexec hx2.2.2.2.1 rfl rfl (hb hbytes d4) ?_
    exact Steps.refl _)
  have hz : V.slots.size = 0 ↔ n = 0 := by
    rcases hx.2.2.2.2.1 with ⟨-, q, -⟩ | ⟨-, q, -⟩ <;> omega
  by_cases h0 : n = 0
  · have c4 : Steps p.tables e below (s₁.setTop (entryFrame m #[.ref x] 1)) (T2.setTop (mkF m 13 #[.val (.ref x)] [.int 1])) := c3.trans (by
      refine XS.ifNo X2.here hexec rfl (hb hbytes d5) rfl (i0_ne_f (by rw [hz.mpr h0]; rfl)) ?_
      refine iconstV X2.here hexec rfl 1 (hb hbytes d8) (by decide) ?_
      refine XS.goto X2.here hexec rfl (pc0 := 9) rfl (hb hbytes d9) (by decide) rfl ?_
      exact Steps.refl _)
    exact ⟨T2, some (.int 1), _, _, _, X2, rfl, rfl, rfl, (fun h => by cases h), ⟨by rw [if_pos h0], hh2⟩, fun fs hl => c4.trans (X2.ireturnOut hexec hret rfl (Or.inr (Or.inl rfl)) (hb hbytes d13) hl)⟩
  · have c4 : Steps p.tables e below (s₁.setTop (entryFrame m #[.ref x] 1)) (T2.setTop (mkF m 13 #[.val (.ref x)] [.int 0])) := c3.trans (by
      refine XS.ifYes X2.here hexec rfl (pc0 := 5) rfl (hb hbytes d5) rfl (i0_ne_t (nz32 v31 (by omega))) (by decide) rfl ?_
      refine iconstV X2.here hexec rfl 0 (hb hbytes d12) (by decide) ?_
      exact Steps.refl _)
    exact ⟨T2, some (.int 0), _, _, _, X2, rfl, rfl, rfl, (fun h => by cases h), ⟨by rw [if_neg h0], hh2⟩, fun fs hl => c4.trans (X2.ireturnOut hexec hret rfl (Or.inr (Or.inl rfl)) (hb hbytes d13) hl)⟩
theorem pays {l : Launch} {R : Room} {p : Program} {e : Env} {below : List Frame} {s : State} {sargs : Array Value} {len W : Nat} (x t : Addr) (V : Cell) (cd : Int32) (n : Nat) (f : Nat → Int32) (htab : tab.before sargs s = true) (hfr : 1 ≤ R.frames) (hlo : W + 12 ≤ R.locals) :
    Back l R p e below s sargs yN len W (fun A₁ a₁ => A₁.cells + 0 ≤ R.cells ∧ A₁.slots + 0 ≤ R.slots ∧ P x t V cd n f a₁ A₁.U) (fun A₁ _ v₁ B₁ => E n v₁ A₁.U B₁.U ∧ B₁.locs = A₁.locs ++ [] ∧ B₁.cells = A₁.cells + 0 ∧ B₁.slots = A₁.slots + 0) :=
  (law l x t V cd n f).pays htab hfr (by omega)
end Emp
/-- what place i of a byte[]'s cell holds -/
def yv (A : Cell) (i : Nat) : Int32 := match A.slots[i]? with | some (.int x) => x | _ => 0
theorem yv_get {a : Addr} {A : Cell} {U : State} (h : XT.Arr .byte a A U) (ht : Typed .byte A) {i : Nat} (hi : i < A.slots.size) : A.slots[i]? = some (.int (yv A i)) := by
  have e := Array.getElem?_eq_getElem hi
  have f := ht i _ e
  unfold yv; rw [e]
  generalize A.slots[i] = v at f
  cases v <;> simp [fits] at f ⊢
/-- the two arrays are equal, place for place -/
def EqC (A B : Cell) : Prop := A.slots.size = B.slots.size ∧ ∀ i, i < A.slots.size → yv A i = yv B i
/-- a boolean that says whether p -/
def Says01 (q : Prop) (r : Option Value) (s u : State) : Prop := ∃ v : Int32, r = some (.int v) ∧ u.heap = s.heap ∧ ((v = 1 ∧ q) ∨ (v = 0 ∧ ¬ q))
theorem Says01.mv {q : Prop} : ∀ r (U U' V V' : State), U'.heap = U.heap → V.vm.Alike V'.vm → V'.heap = V.heap → Says01 q r U V → Says01 q r U' V' :=
  fun r U U' V V' h1 _ h2 ⟨v, a, b, c⟩ => ⟨v, a, by rw [h1, h2]; exact b, c⟩
namespace LEq
def yN : MethodName := ⟨"java/lang/StringLatin1", "equals", "([B[B)Z"⟩
abbrev yB : ByteArray := jdk_43_method_13_code
theorem d0 : decode yB 0 = .ok (.aload_n 0, 1) := by decide +kernel
theorem d1 : decode yB 1 = .ok (.arraylength, 1) := by decide +kernel
theorem d2 : decode yB 2 = .ok (.aload_n 1, 1) := by decide +kernel
theorem d3 : decode yB 3 = .ok (.arraylength, 1) := by decide +kernel
theorem d4 : decode yB 4 = .ok (.if_icmp (.ne) 30, 3) := by decide +kernel
theorem d7 : decode yB 7 = .ok (.iconst 0, 1) := by decide +kernel
theorem d8 : decode yB 8 = .ok (.istore_n 2, 1) := by decide +kernel
theorem d9 : decode yB 9 = .ok (.iload_n 2, 1) := by decide +kernel
theorem d10 : decode yB 10 = .ok (.aload_n 0, 1) := by decide +kernel
theorem d11 : decode yB 11 = .ok (.arraylength, 1) := by decide +kernel
theorem d12 : decode yB 12 = .ok (.if_icmp (.ge) 20, 3) := by decide +kernel
theorem d15 : decode yB 15 = .ok (.aload_n 0, 1) := by decide +kernel
theorem d16 : decode yB 16 = .ok (.iload_n 2, 1) := by decide +kernel
theorem d17 : decode yB 17 = .ok (.baload, 1) := by decide +kernel
theorem d18 : decode yB 18 = .ok (.aload_n 1, 1) := by decide +kernel
theorem d19 : decode yB 19 = .ok (.iload_n 2, 1) := by decide +kernel
theorem d20 : decode yB 20 = .ok (.baload, 1) := by decide +kernel
theorem d21 : decode yB 21 = .ok (.if_icmp (.eq) 5, 3) := by decide +kernel
theorem d24 : decode yB 24 = .ok (.iconst 0, 1) := by decide +kernel
theorem d25 : decode yB 25 = .ok (.ireturn, 1) := by decide +kernel
theorem d26 : decode yB 26 = .ok (.iinc 2 1, 3) := by decide +kernel
theorem d29 : decode yB 29 = .ok (.goto (-20), 3) := by decide +kernel
theorem d32 : decode yB 32 = .ok (.iconst 1, 1) := by decide +kernel
theorem d33 : decode yB 33 = .ok (.ireturn, 1) := by decide +kernel
theorem d34 : decode yB 34 = .ok (.iconst 0, 1) := by decide +kernel
theorem d35 : decode yB 35 = .ok (.ireturn, 1) := by decide +kernel
def site : List Cond := []
def tab : Cond := tabOf yN yB 3 (some .boolean) site
def P (a : Addr) (A : Cell) (b : Addr) (B : Cell) (args : Array Value) (s : State) : Prop := args = #[.ref a, .ref b] ∧ XT.Arr .byte a A s ∧ Typed .byte A ∧ XT.Arr .byte b B s ∧ Typed .byte B
/-- whether two byte[] are equal, place for place -/
theorem law (l : Launch) (a : Addr) (A : Cell) (b : Addr) (B : Cell) : Law l yN 2 2 0 0 yB 3 (some .boolean) site (P a A b B) (Says01 (EqC A B)) [] 0 0 := by
  refine Law.of_walk (plainFor_of_name (by decide +kernel)) (by decide +kernel) (by decide +kernel) (by decide) (fun _ _ h => by rw [h.1]; rfl) (fun _ U U' hal hh h => ⟨h.1, h.2.1.mv hal hh, h.2.2.1, h.2.2.2.1.mv hal hh, h.2.2.2.2⟩) (fun r U U' V V' h1 hal h2 h => Says01.mv r U U' V V' h1 hal h2 h) ?_
  intro p e s m args below meth c s₁ X0 hexec hbytes hml hret hlk hnm hown hh0 W hP
  obtain ⟨rfl, hA, tA, hB, tB⟩ := hP
  have a31 := hA.2.2.2
  have b31 := hB.2.2.2
  have hA0 := hA.mv X0.warmed.alike hh0
  have hB0 := hB.mv X0.warmed.alike hh0
  have c1 : Steps p.tables e below (s₁.setTop (entryFrame m #[.ref a, .ref b] 3)) (s₁.setTop (mkF m 0 #[.val (.ref a), .val (.ref b), .unset] [])) := entry rfl
  have c2 : Steps p.tables e below (s₁.setTop (entryFrame m #[.ref a, .ref b] 3)) (s₁.setTop (mkF m 4 #[.val (.ref a), .val (.ref b), .unset] [.int (Int32.ofNat B.slots.size), .int (Int32.ofNat A.slots.size)])) := c1.trans (by
    refine XS.aloadN X0.here hexec rfl (hb hbytes d0) rfl rfl ?_
    refine X0.alen hexec hA0 rfl rfl (hb hbytes d1) ?_
    refine XS.aloadN X0.here hexec rfl (hb hbytes d2) rfl rfl ?_
    refine X0.alen hexec hB0 rfl rfl (hb hbytes d3) ?_
    exact Steps.refl _)
  by_cases hs : A.slots.size = B.slots.size
  · have c3 : Steps p.tables e below (s₁.setTop (entryFrame m #[.ref a, .ref b] 3)) (s₁.setTop (mkF m 9 #[.val (.ref a), .val (.ref b), .val (.int 0)] [])) := c2.trans (by
      refine XS.icmpNo X0.here hexec rfl (hb hbytes d4) rfl (ii_ne_f (by rw [hs])) ?_
      refine iconstV X0.here hexec rfl 0 (hb hbytes d7) (by decide) ?_
      refine XS.istoreN X0.here hexec rfl (hb hbytes d8) rfl rfl ?_
      exact Steps.refl _)
    have loop : ∀ (r i : Nat), i + r = A.slots.size → (∀ j, j < i → yv A j = yv B j) → Steps p.tables e below (s₁.setTop (entryFrame m #[.ref a, .ref b] 3)) (s₁.setTop (mkF m 9 #[.val (.ref a), .val (.ref b), .val (.int (Int32.ofNat i))] [])) → ∃ (pc : Nat) (Ls : Array Slot) (v : Int32), (pc = 25 ∨ pc = 33) ∧ ((v = 1 ∧ EqC A B) ∨ (v = 0 ∧ ¬ EqC A B)) ∧ Steps p.tables e below (s₁.setTop (entryFrame m #[.ref a, .ref b] 3)) (s₁.setTop (mkF m pc Ls [.int v])) := by
      intro r
      induction r with
      | zero =>
        intro i hi he cl
        exact ⟨33, _, 1, Or.inr rfl, Or.inl ⟨rfl, hs, fun j hj => he j (by omega)⟩, cl.trans (by
          refine XS.iloadN X0.here hexec rfl (hb hbytes d9) rfl ?_
          refine XS.aloadN X0.here hexec rfl (hb hbytes d10) rfl rfl ?_
          refine X0.alen hexec hA0 rfl rfl (hb hbytes d11) ?_
          refine XS.icmpYes X0.here hexec rfl (pc0 := 12) rfl (hb hbytes d12) rfl (ii_ge_t (nlt32 (by omega) (by omega))) (by decide) rfl ?_
          refine iconstV X0.here hexec rfl 1 (hb hbytes d32) (by decide) ?_
          exact Steps.refl _)⟩
      | succ r ih =>
        intro i hi he cl
        have c4 : Steps p.tables e below (s₁.setTop (entryFrame m #[.ref a, .ref b] 3)) (s₁.setTop (mkF m 21 #[.val (.ref a), .val (.ref b), .val (.int (Int32.ofNat i))] [.int (yv B i), .int (yv A i)])) := cl.trans (by
          refine XS.iloadN X0.here hexec rfl (hb hbytes d9) rfl ?_
          refine XS.aloadN X0.here hexec rfl (hb hbytes d10) rfl rfl ?_
          refine X0.alen hexec hA0 rfl rfl (hb hbytes d11) ?_
          refine XS.icmpNo X0.here hexec rfl (hb hbytes d12) rfl (ii_ge_f (lt32 (by omega) (by omega))) ?_
          refine XS.aloadN X0.here hexec rfl (hb hbytes d15) rfl rfl ?_
          refine XS.iloadN X0.here hexec rfl (hb hbytes d16) rfl ?_
          refine X0.aget hexec hA0 rfl (yv_get hA tA (i := i) (by omega)) rfl rfl (hb hbytes d17) ?_
          refine XS.aloadN X0.here hexec rfl (hb hbytes d18) rfl rfl ?_
          refine XS.iloadN X0.here hexec rfl (hb hbytes d19) rfl ?_
          refine X0.aget hexec hB0 rfl (yv_get hB tB (i := i) (by omega)) rfl rfl (hb hbytes d20) ?_
          exact Steps.refl _)
        by_cases hv : yv A i = yv B i
        · have c5 : Steps p.tables e below (s₁.setTop (entryFrame m #[.ref a, .ref b] 3)) (s₁.setTop (mkF m 9 #[.val (.ref a), .val (.ref b), .val (.int (Int32.ofNat i + 1))] [])) := c4.trans (by
            refine XS.icmpYes X0.here hexec rfl (pc0 := 21) rfl (hb hbytes d21) rfl (ii_eq_t hv) (by decide) rfl ?_
            refine iincV X0.here hexec rfl 1 (hb hbytes d26) (by decide) rfl rfl ?_
            refine XS.goto X0.here hexec rfl (pc0 := 29) rfl (hb hbytes d29) (by decide) rfl ?_
            exact Steps.refl _)
          rw [succ32] at c5
          exact ih (i + 1) (by omega) (fun j hj => by
            by_cases e : j = i
            · rw [e]; exact hv
            · exact he j (by omega)) c5
        · exact ⟨25, _, 0, Or.inl rfl, Or.inr ⟨rfl, fun q => hv (q.2 i (by omega))⟩, c4.trans (by
            refine XS.icmpNo X0.here hexec rfl (hb hbytes d21) rfl (ii_eq_f hv) ?_
            refine iconstV X0.here hexec rfl 0 (hb hbytes d24) (by decide) ?_
            exact Steps.refl _)⟩
    obtain ⟨pc, Ls, v, hpc, hv, cz⟩ := loop A.slots.size 0 (by omega) (fun j hj => absurd hj (Nat.not_lt_zero j)) c3
    have nv : narrow .boolean (.int v) = .int v := by rcases hv with ⟨rfl, -⟩ | ⟨rfl, -⟩ <;> rfl
    rcases hpc with rfl | rfl
    · exact ⟨s₁, some (.int v), _, _, _, X0, rfl, rfl, rfl, (fun h => by cases h), ⟨v, rfl, hh0, hv⟩, fun fs hl => cz.trans (X0.ireturnOut hexec hret nv (Or.inr (Or.inl rfl)) (hb hbytes d25) hl)⟩
    · exact ⟨s₁, some (.int v), _, _, _, X0, rfl, rfl, rfl, (fun h => by cases h), ⟨v, rfl, hh0, hv⟩, fun fs hl => cz.trans (X0.ireturnOut hexec hret nv (Or.inr (Or.inl rfl)) (hb hbytes d33) hl)⟩
  · have c3 : Steps p.tables e below (s₁.setTop (entryFrame m #[.ref a, .ref b] 3)) (s₁.setTop (mkF m 35 #[.val (.ref a), .val (.ref b), .unset] [.int 0])) := c2.trans (by
      refine XS.icmpYes X0.here hexec rfl (pc0 := 4) rfl (hb hbytes d4) rfl (ii_ne_t (ne32 a31 b31 hs)) (by decide) rfl ?_
      refine iconstV X0.here hexec rfl 0 (hb hbytes d34) (by decide) ?_
      exact Steps.refl _)
    exact ⟨s₁, some (.int 0), _, _, _, X0, rfl, rfl, rfl, (fun h => by cases h), ⟨0, rfl, hh0, Or.inr ⟨rfl, fun q => hs q.1⟩⟩, fun fs hl => c3.trans (X0.ireturnOut hexec hret rfl (Or.inr (Or.inl rfl)) (hb hbytes d35) hl)⟩
end LEq
theorem Cod.ty {cd : Int32} {n : Nat} {f : Nat → Int32} {V : Cell} (h : Cod cd n f V) : Typed .byte V := fun i v hv => by
  have hi : i < V.slots.size := (Array.getElem?_eq_some_iff.mp hv).1
  rcases h with ⟨-, k1, k2⟩ | ⟨-, k1, k2, -⟩
  · rw [(k2 i (by omega)).1] at hv; cases hv; exact fits_lo8 _
  · rcases Nat.mod_two_eq_zero_or_one i with e | e
    · obtain ⟨j, rfl⟩ : ∃ j, i = 2 * j := ⟨i / 2, by omega⟩
      rw [(k2 j (by omega)).1] at hv; cases hv; exact fits_lo8 _
    · obtain ⟨j, rfl⟩ : ∃ j, i = 2 * j + 1 := ⟨i / 2, by omega⟩
      rw [(k2 j (by omega)).2] at hv; cases hv; exact fits_lo8 _
/-- the same text -/
def SameT (n : Nat) (f : Nat → Int32) (k : Nat) (g : Nat → Int32) : Prop := n = k ∧ ∀ j, j < n → f j = g j
theorem lo8_inj {x y : Int32} (h0 : ¬ x < 0) (h1 : ¬ 255 < x) (k0 : ¬ y < 0) (k1 : ¬ 255 < y) (h : lo8 x = lo8 y) : x = y := by
  rw [← lo8_mask h0 h1, ← lo8_mask k0 k1, h]
/-- arrays coded by one coder are equal just where the texts are -/
theorem Cod.eqv {cd : Int32} {n k : Nat} {f g : Nat → Int32} {V V' : Cell} (h : Cod cd n f V) (h' : Cod cd k g V') (hf : ∀ j, j < n → ¬ f j < 0 ∧ ¬ 65535 < f j) (hg : ∀ j, j < k → ¬ g j < 0 ∧ ¬ 65535 < g j) : EqC V V' ↔ SameT n f k g := by
  have yvv : ∀ {W : Cell} {i : Nat} {x : Int32}, W.slots[i]? = some (.int x) → yv W i = x := fun q => by unfold yv; rw [q]
  rcases h with ⟨rfl, k1, k2⟩ | ⟨rfl, k1, k2, -⟩
  · rcases h' with ⟨-, m1, m2⟩ | ⟨e, -⟩
    · constructor
      · rintro ⟨e1, e2⟩
        refine ⟨by omega, fun j hj => ?_⟩
        have q := e2 j (by omega)
        rw [yvv (k2 j hj).1, yvv (m2 j (by omega)).1] at q
        exact lo8_inj (hf j hj).1 (k2 j hj).2 (hg j (by omega)).1 (m2 j (by omega)).2 q
      · rintro ⟨rfl, e2⟩
        refine ⟨by omega, fun j hj => ?_⟩
        rw [yvv (k2 j (by omega)).1, yvv (m2 j (by omega)).1, e2 j (by omega)]
    · exact absurd e (by decide)
  · rcases h' with ⟨e, -⟩ | ⟨-, m1, m2, -⟩
    · exact absurd e (by decide)
    · constructor
      · rintro ⟨e1, e2⟩
        refine ⟨by omega, fun j hj => ?_⟩
        have q1 := e2 (2 * j) (by omega)
        have q2 := e2 (2 * j + 1) (by omega)
        rw [yvv (k2 j hj).1, yvv (m2 j (by omega)).1] at q1
        rw [yvv (k2 j hj).2, yvv (m2 j (by omega)).2] at q2
        rw [← pair_says (hf j hj).1 (hf j hj).2, ← pair_says (hg j (by omega)).1 (hg j (by omega)).2, q1, q2]
      · rintro ⟨rfl, e2⟩
        refine ⟨by omega, fun i hi => ?_⟩
        rcases Nat.mod_two_eq_zero_or_one i with e | e
        · obtain ⟨j, rfl⟩ : ∃ j, i = 2 * j := ⟨i / 2, by omega⟩
          rw [yvv (k2 j (by omega)).1, yvv (m2 j (by omega)).1, e2 j (by omega)]
        · obtain ⟨j, rfl⟩ : ∃ j, i = 2 * j + 1 := ⟨i / 2, by omega⟩
          rw [yvv (k2 j (by omega)).2, yvv (m2 j (by omega)).2, e2 j (by omega)]
/-- two codings differ: so do the texts -/
theorem Cod.dif {cd cd' : Int32} {n k : Nat} {f g : Nat → Int32} {V V' : Cell} (h : Cod cd n f V) (h' : Cod cd' k g V') (hne : ¬ cd = cd') : ¬ SameT n f k g := by
  rintro ⟨rfl, e⟩
  rcases h with ⟨rfl, -, k2⟩ | ⟨rfl, -, -, j, hj, hw⟩
  · rcases h' with ⟨rfl, -⟩ | ⟨-, -, -, j, hj, hw⟩
    · exact hne rfl
    · exact (k2 j hj).2 (by rw [e j hj]; exact hw)
  · rcases h' with ⟨-, -, m2⟩ | ⟨rfl, -⟩
    · exact (m2 j hj).2 (by rw [← e j hj]; exact hw)
    · exact hne rfl
/-- an object of exactly C is an instance of C -/
theorem cinst {p : Program} {l : Launch} {e : Env} {R : Room} {s : State} {m : MethodId} {args : Array Value} {below : List Frame} {meth : Method} {c : Code} {T : State} {locs : List Loc} {cells slots : Nat} (X : Stand p l e R s m args below meth c T locs cells slots) (hexec : p.tables.exec = Jvm.exec) {own C : String} {index : Nat} (hown : s.vm.findClass own = some m.cls) (hlink : (Cond.classLink own index C).before args s = true) {a : Addr} (hE : Exact C a T)
    {g : JFrame} (hg : g.method = m) {rest : List Value} (hstack : g.stack = .ref a :: rest) (hdg : decode c.code g.pc = .ok (.instanceof index, 3)) :
    ∃ T', Stand p l e R s m args below meth c T' locs cells slots ∧ T'.heap = T.heap ∧ ∀ target, Steps p.tables e below (T'.setTop { g with pc := g.pc + 3, stack := .int 1 :: rest }) target → Steps p.tables e below (T.setTop g) target := by
  obtain ⟨cB, h1, D, h2, h3, h4⟩ := hE
  have h1' : s.vm.findClass C = some cB := by rw [← X.warmed.alike.findClass]; exact h1
  obtain ⟨vm', X', st⟩ := X.instanceofYes hexec hown hlink h2 h4 h1' (by rw [h3]; exact Jvm.Free.SB.assignable_self _ _) hg hstack hdg
  exact ⟨_, X', rfl, st⟩
theorem cself {p : Program} {l : Launch} {e : Env} {R : Room} {s : State} {m : MethodId} {args : Array Value} {below : List Frame} {meth : Method} {c : Code} {T : State} {locs : List Loc} {cells slots : Nat} (X : Stand p l e R s m args below meth c T locs cells slots) (hexec : p.tables.exec = Jvm.exec) {own C : String} {index : Nat} (hown : s.vm.findClass own = some m.cls) (hlink : (Cond.classLink own index C).before args s = true) {a : Addr} (hE : Exact C a T)
    {g : JFrame} (hg : g.method = m) {rest : List Value} (hstack : g.stack = .ref a :: rest) (hdg : decode c.code g.pc = .ok (.checkcast index, 3)) :
    ∃ T', Stand p l e R s m args below meth c T' locs cells slots ∧ T'.heap = T.heap ∧ ∀ target, Steps p.tables e below (T'.setTop { g with pc := g.pc + 3, stack := .ref a :: rest }) target → Steps p.tables e below (T.setTop g) target := by
  obtain ⟨cB, h1, D, h2, h3, h4⟩ := hE
  have h1' : s.vm.findClass C = some cB := by rw [← X.warmed.alike.findClass]; exact h1
  obtain ⟨vm', X', st⟩ := X.checkcastYes hexec hown hlink h2 h4 h1' (by rw [h3]; exact Jvm.Free.SB.assignable_self _ _) hg hstack hdg
  exact ⟨_, X', rfl, fun t h => st t (by rw [← hstack] at h; exact h)⟩
namespace SEq
def yN : MethodName := ⟨"java/lang/String", "equals", "(Ljava/lang/Object;)Z"⟩
abbrev yB : ByteArray := jdk_42_method_66_code
theorem d0 : decode yB 0 = .ok (.aload_n 0, 1) := by decide +kernel
theorem d1 : decode yB 1 = .ok (.aload_n 1, 1) := by decide +kernel
theorem d2 : decode yB 2 = .ok (.if_acmp (.ne) 5, 3) := by decide +kernel
theorem d5 : decode yB 5 = .ok (.iconst 1, 1) := by decide +kernel
theorem d6 : decode yB 6 = .ok (.ireturn, 1) := by decide +kernel
theorem d7 : decode yB 7 = .ok (.aload_n 1, 1) := by decide +kernel
theorem d8 : decode yB 8 = .ok (.instanceof 10, 3) := by decide +kernel
theorem d11 : decode yB 11 = .ok (.ifCond (.eq) 43, 3) := by decide +kernel
theorem d14 : decode yB 14 = .ok (.aload_n 1, 1) := by decide +kernel
theorem d15 : decode yB 15 = .ok (.checkcast 10, 3) := by decide +kernel
theorem d18 : decode yB 18 = .ok (.astore_n 2, 1) := by decide +kernel
theorem d19 : decode yB 19 = .ok (.getstatic 38, 3) := by decide +kernel
theorem d22 : decode yB 22 = .ok (.ifCond (.eq) 14, 3) := by decide +kernel
theorem d25 : decode yB 25 = .ok (.aload_n 0, 1) := by decide +kernel
theorem d26 : decode yB 26 = .ok (.getfield 15, 3) := by decide +kernel
theorem d29 : decode yB 29 = .ok (.aload_n 2, 1) := by decide +kernel
theorem d30 : decode yB 30 = .ok (.getfield 15, 3) := by decide +kernel
theorem d33 : decode yB 33 = .ok (.if_icmp (.ne) 21, 3) := by decide +kernel
theorem d36 : decode yB 36 = .ok (.aload_n 0, 1) := by decide +kernel
theorem d37 : decode yB 37 = .ok (.getfield 9, 3) := by decide +kernel
theorem d40 : decode yB 40 = .ok (.aload_n 2, 1) := by decide +kernel
theorem d41 : decode yB 41 = .ok (.getfield 9, 3) := by decide +kernel
theorem d44 : decode yB 44 = .ok (.invokestatic 541, 3) := by decide +kernel
theorem d47 : decode yB 47 = .ok (.ifCond (.eq) 7, 3) := by decide +kernel
theorem d50 : decode yB 50 = .ok (.iconst 1, 1) := by decide +kernel
theorem d51 : decode yB 51 = .ok (.goto 4, 3) := by decide +kernel
theorem d54 : decode yB 54 = .ok (.iconst 0, 1) := by decide +kernel
theorem d55 : decode yB 55 = .ok (.ireturn, 1) := by decide +kernel
def site : List Cond := [.classLink "java/lang/String" 10 "java/lang/String", .fieldLink "java/lang/String" 38 "java/lang/String" "COMPACT_STRINGS" "Z", .fieldLink "java/lang/String" 15 "java/lang/String" "coder" "B", .fieldLink "java/lang/String" 9 "java/lang/String" "value" "[B", LEq.tab] ++ staticW "java/lang/String" 541 LEq.yN
def tab : Cond := tabOf yN yB 3 (some .boolean) site
def P (x t : Addr) (V : Cell) (cd : Int32) (n : Nat) (f : Nat → Int32) (y t' : Addr) (V' : Cell) (cd' : Int32) (k : Nat) (g : Nat → Int32) (z : Int32) (args : Array Value) (s : State) : Prop := args = #[.ref x, .ref y] ∧ Txt x t V cd n f s ∧ Txt y t' V' cd' k g s ∧ StaticIs s "java/lang/String" "COMPACT_STRINGS" "Z" (.int z) ∧ ¬ z = 0
/-- equals(Object) of two Strings: whether the texts are the same -/
theorem law (l : Launch) (x t : Addr) (V : Cell) (cd : Int32) (n : Nat) (f : Nat → Int32) (y t' : Addr) (V' : Cell) (cd' : Int32) (k : Nat) (g : Nat → Int32) (z : Int32) : Law l yN 2 1 1 14 yB 3 (some .boolean) site (P x t V cd n f y t' V' cd' k g z) (Says01 (SameT n f k g)) [] 0 0 := by
  refine Law.of_walk (plainFor_of_name (by decide +kernel)) (by decide +kernel) (by decide +kernel) (by decide) (fun _ _ h => by rw [h.1]; rfl) (fun _ U U' hal hh h => ⟨h.1, h.2.1.mv hal hh, h.2.2.1.mv hal hh, h.2.2.2.1.there hal hh, h.2.2.2.2⟩) (fun r U U' V V' h1 hal h2 h => Says01.mv r U U' V V' h1 hal h2 h) ?_
  intro p e s m args below meth c s₁ X0 hexec hbytes hml hret hlk hnm hown hh0 W hP
  obtain ⟨rfl, hx, hy, s1, hz⟩ := hP
  have c1 : Steps p.tables e below (s₁.setTop (entryFrame m #[.ref x, .ref y] 3)) (s₁.setTop (mkF m 2 #[.val (.ref x), .val (.ref y), .unset] [.ref y, .ref x])) := Steps.trans (entry rfl) (by
    show Steps p.tables e below (s₁.setTop (mkF m 0 #[.val (.ref x), .val (.ref y), .unset] [])) _
    refine XS.aloadN X0.here hexec rfl (hb hbytes d0) rfl rfl ?_
    refine XS.aloadN X0.here hexec rfl (hb hbytes d1) rfl rfl ?_
    exact Steps.refl _)
  by_cases hxy : x = y
  · have c2 : Steps p.tables e below (s₁.setTop (entryFrame m #[.ref x, .ref y] 3)) (s₁.setTop (mkF m 6 #[.val (.ref x), .val (.ref y), .unset] [.int 1])) := c1.trans (by
      refine acmpNo X0.here hexec rfl (hb hbytes d2) rfl rfl rfl (by simp [acmp, hxy]) ?_
      refine iconstV X0.here hexec rfl 1 (hb hbytes d5) (by decide) ?_
      exact Steps.refl _)
    subst hxy
    have ec : cd = cd' := by
      obtain ⟨D, fd, a1, a2, a3⟩ := hx.2.2.1
      obtain ⟨D', fd', b1, b2, b3⟩ := hy.2.2.1
      cases a1.symm.trans b1
      obtain ⟨q1, q2, q3, q4⟩ := a2.1
      obtain ⟨r1, r2, r3, r4⟩ := b2.1
      cases q4.symm.trans r4
      cases a3.symm.trans b3; rfl
    have et : t = t' := by
      obtain ⟨D, fd, a1, a2, a3⟩ := hx.2.1
      obtain ⟨D', fd', b1, b2, b3⟩ := hy.2.1
      cases a1.symm.trans b1
      obtain ⟨q1, q2, q3, q4⟩ := a2.1
      obtain ⟨r1, r2, r3, r4⟩ := b2.1
      cases q4.symm.trans r4
      cases a3.symm.trans b3; rfl
    subst ec et
    have ev : V = V' := by cases hx.2.2.2.1.1.symm.trans hy.2.2.2.1.1; rfl
    subst ev
    have hs : SameT n f k g := (Cod.eqv hx.2.2.2.2.1 hy.2.2.2.2.1 hx.2.2.2.2.2 hy.2.2.2.2.2).mp ⟨rfl, fun _ _ => rfl⟩
    exact ⟨s₁, some (.int 1), _, _, _, X0, rfl, rfl, rfl, (fun h => by cases h), ⟨1, rfl, hh0, Or.inl ⟨rfl, hs⟩⟩, fun fs hl => c2.trans (X0.ireturnOut hexec hret rfl (Or.inr (Or.inl rfl)) (hb hbytes d6) hl)⟩
  · have c2 : Steps p.tables e below (s₁.setTop (entryFrame m #[.ref x, .ref y] 3)) (s₁.setTop (mkF m 8 #[.val (.ref x), .val (.ref y), .unset] [.ref y])) := c1.trans (by
      refine acmpYes X0.here hexec rfl (pc0 := 2) rfl (hb hbytes d2) rfl rfl rfl (by simp [acmp, hxy]) (by decide) rfl ?_
      refine XS.aloadN X0.here hexec rfl (hb hbytes d7) rfl rfl ?_
      exact Steps.refl _)
    obtain ⟨T3, X3, q3, st3⟩ := cinst X0 hexec hown (wk W (.classLink "java/lang/String" 10 "java/lang/String")) (hy.mv X0.warmed.alike hh0).1 (g := (mkF m 8 #[.val (.ref x), .val (.ref y), .unset] [.ref y])) rfl (rest := []) rfl (hb hbytes d8)
    have hh3 := q3.trans hh0
    have c4 : Steps p.tables e below (s₁.setTop (entryFrame m #[.ref x, .ref y] 3)) (T3.setTop (mkF m 15 #[.val (.ref x), .val (.ref y), .unset] [.ref y])) := (c2.trans (st3 _ (Steps.refl _))).trans (by
      refine XS.ifNo X3.here hexec rfl (hb hbytes d11) rfl (i0_eq_f (by decide)) ?_
      refine XS.aloadN X3.here hexec rfl (hb hbytes d14) rfl rfl ?_
      exact Steps.refl _)
    obtain ⟨T5, X5, q5, st5⟩ := cself X3 hexec hown (wk W (.classLink "java/lang/String" 10 "java/lang/String")) (hy.mv X3.warmed.alike hh3).1 (g := (mkF m 15 #[.val (.ref x), .val (.ref y), .unset] [.ref y])) rfl (rest := []) rfl (hb hbytes d15)
    have hh5 := q5.trans hh3
    have c6 : Steps p.tables e below (s₁.setTop (entryFrame m #[.ref x, .ref y] 3)) (T5.setTop (mkF m 19 #[.val (.ref x), .val (.ref y), .val (.ref y)] [])) := (c4.trans (st5 _ (Steps.refl _))).trans (by
      refine XS.astoreN X5.here hexec rfl (hb hbytes d18) rfl rfl rfl ?_
      exact Steps.refl _)
    obtain ⟨T7, X7, q7, st7⟩ := X5.sget hexec hown (wk W (.fieldLink "java/lang/String" 38 "java/lang/String" "COMPACT_STRINGS" "Z")) s1 (fun _ _ h => by rw [hh5]; exact h) (g := (mkF m 19 #[.val (.ref x), .val (.ref y), .val (.ref y)] [])) rfl (hb hbytes d19)
    have hh7 := q7.trans hh5
    have c8 : Steps p.tables e below (s₁.setTop (entryFrame m #[.ref x, .ref y] 3)) (T7.setTop (mkF m 26 #[.val (.ref x), .val (.ref y), .val (.ref y)] [.ref x])) := (c6.trans (st7 _ (Steps.refl _))).trans (by
      refine XS.ifNo X7.here hexec rfl (hb hbytes d22) rfl (i0_eq_f hz) ?_
      refine XS.aloadN X7.here hexec rfl (hb hbytes d25) rfl rfl ?_
      exact Steps.refl _)
    obtain ⟨T9, X9, q9, st9⟩ := X7.hget hexec hown (wk W (.fieldLink "java/lang/String" 15 "java/lang/String" "coder" "B")) (hx.mv X7.warmed.alike hh7).2.2.1 (g := (mkF m 26 #[.val (.ref x), .val (.ref y), .val (.ref y)] [.ref x])) rfl (rest := []) rfl (hb hbytes d26)
    have hh9 := q9.trans hh7
    have c10 : Steps p.tables e below (s₁.setTop (entryFrame m #[.ref x, .ref y] 3)) (T9.setTop (mkF m 30 #[.val (.ref x), .val (.ref y), .val (.ref y)] [.ref y, .int cd])) := (c8.trans (st9 _ (Steps.refl _))).trans (by
      refine XS.aloadN X9.here hexec rfl (hb hbytes d29) rfl rfl ?_
      exact Steps.refl _)
    obtain ⟨T11, X11, q11, st11⟩ := X9.hget hexec hown (wk W (.fieldLink "java/lang/String" 15 "java/lang/String" "coder" "B")) (hy.mv X9.warmed.alike hh9).2.2.1 (g := (mkF m 30 #[.val (.ref x), .val (.ref y), .val (.ref y)] [.ref y, .int cd])) rfl (rest := [.int cd]) rfl (hb hbytes d30)
    have hh11 := q11.trans hh9
    have c12 : Steps p.tables e below (s₁.setTop (entryFrame m #[.ref x, .ref y] 3)) (T11.setTop (mkF m 33 #[.val (.ref x), .val (.ref y), .val (.ref y)] [.int cd', .int cd])) := c10.trans (st11 _ (Steps.refl _))
    by_cases hcd : cd = cd'
    · subst hcd
      have c13 : Steps p.tables e below (s₁.setTop (entryFrame m #[.ref x, .ref y] 3)) (T11.setTop (mkF m 37 #[.val (.ref x), .val (.ref y), .val (.ref y)] [.ref x])) := c12.trans (by
        refine XS.icmpNo X11.here hexec rfl (hb hbytes d33) rfl (ii_ne_f rfl) ?_
        refine XS.aloadN X11.here hexec rfl (hb hbytes d36) rfl rfl ?_
        exact Steps.refl _)
      obtain ⟨T14, X14, q14, st14⟩ := X11.hget hexec hown (wk W (.fieldLink "java/lang/String" 9 "java/lang/String" "value" "[B")) (hx.mv X11.warmed.alike hh11).2.1 (g := (mkF m 37 #[.val (.ref x), .val (.ref y), .val (.ref y)] [.ref x])) rfl (rest := []) rfl (hb hbytes d37)
      have hh14 := q14.trans hh11
      have c15 : Steps p.tables e below (s₁.setTop (entryFrame m #[.ref x, .ref y] 3)) (T14.setTop (mkF m 41 #[.val (.ref x), .val (.ref y), .val (.ref y)] [.ref y, .ref t])) := (c13.trans (st14 _ (Steps.refl _))).trans (by
        refine XS.aloadN X14.here hexec rfl (hb hbytes d40) rfl rfl ?_
        exact Steps.refl _)
      obtain ⟨T16, X16, q16, st16⟩ := X14.hget hexec hown (wk W (.fieldLink "java/lang/String" 9 "java/lang/String" "value" "[B")) (hy.mv X14.warmed.alike hh14).2.1 (g := (mkF m 41 #[.val (.ref x), .val (.ref y), .val (.ref y)] [.ref y, .ref t])) rfl (rest := [.ref t]) rfl (hb hbytes d41)
      have hh16 := q16.trans hh14
      have c17 : Steps p.tables e below (s₁.setTop (entryFrame m #[.ref x, .ref y] 3)) (T16.setTop (mkF m 44 #[.val (.ref x), .val (.ref y), .val (.ref y)] [.ref t', .ref t])) := c15.trans (st16 _ (Steps.refl _))
      obtain ⟨v18, T18, X18, E18, g18⟩ := X16.callS hexec (LEq.law l t V t' V') hown (wks W (staticW "java/lang/String" 541 LEq.yN)) (wk W LEq.tab) (W := 0) (Nat.le_of_ble_eq_true rfl) (Nat.le_of_ble_eq_true rfl) (Nat.le_refl _) (Nat.le_refl _) (g := (mkF m 44 #[.val (.ref x), .val (.ref y), .val (.ref y)] [.ref t', .ref t])) rfl (by rw [hml]; rfl) c17 (argsL := [.ref t, .ref t']) (rest := []) rfl rfl (by show 2 * 0 + 0 ≤ _; decide) (hb hbytes d44) (⟨rfl, hx.2.2.2.1.mv X16.warmed.alike hh16, hx.2.2.2.2.1.ty, hy.2.2.2.1.mv X16.warmed.alike hh16, hy.2.2.2.2.1.ty⟩)
      obtain ⟨v, rfl, q18, hv⟩ := E18
      have iff := Cod.eqv hx.2.2.2.2.1 hy.2.2.2.2.1 hx.2.2.2.2.2 hy.2.2.2.2.2
      rcases hv with ⟨rfl, he⟩ | ⟨rfl, he⟩
      · have c19 : Steps p.tables e below (s₁.setTop (entryFrame m #[.ref x, .ref y] 3)) (T18.setTop (mkF m 55 #[.val (.ref x), .val (.ref y), .val (.ref y)] [.int 1])) := Steps.trans g18 (by
          refine XS.ifNo X18.here hexec rfl (hb hbytes d47) rfl (i0_eq_f (by decide)) ?_
          refine iconstV X18.here hexec rfl 1 (hb hbytes d50) (by decide) ?_
          refine XS.goto X18.here hexec rfl (pc0 := 51) rfl (hb hbytes d51) (by decide) rfl ?_
          exact Steps.refl _)
        exact ⟨T18, some (.int 1), _, _, _, X18, rfl, rfl, rfl, (fun h => by cases h), ⟨1, rfl, q18.trans hh16, Or.inl ⟨rfl, iff.mp he⟩⟩, fun fs hl => c19.trans (X18.ireturnOut hexec hret rfl (Or.inr (Or.inl rfl)) (hb hbytes d55) hl)⟩
      · have c19 : Steps p.tables e below (s₁.setTop (entryFrame m #[.ref x, .ref y] 3)) (T18.setTop (mkF m 55 #[.val (.ref x), .val (.ref y), .val (.ref y)] [.int 0])) := Steps.trans g18 (by
          refine XS.ifYes X18.here hexec rfl (pc0 := 47) rfl (hb hbytes d47) rfl (i0_eq_t rfl) (by decide) rfl ?_
          refine iconstV X18.here hexec rfl 0 (hb hbytes d54) (by decide) ?_
          exact Steps.refl _)
        exact ⟨T18, some (.int 0), _, _, _, X18, rfl, rfl, rfl, (fun h => by cases h), ⟨0, rfl, q18.trans hh16, Or.inr ⟨rfl, fun q => he (iff.mpr q)⟩⟩, fun fs hl => c19.trans (X18.ireturnOut hexec hret rfl (Or.inr (Or.inl rfl)) (hb hbytes d55) hl)⟩
    · have c13 : Steps p.tables e below (s₁.setTop (entryFrame m #[.ref x, .ref y] 3)) (T11.setTop (mkF m 55 #[.val (.ref x), .val (.ref y), .val (.ref y)] [.int 0])) := c12.trans (by
        refine XS.icmpYes X11.here hexec rfl (pc0 := 33) rfl (hb hbytes d33) rfl (ii_ne_t hcd) (by decide) rfl ?_
        refine iconstV X11.here hexec rfl 0 (hb hbytes d54) (by decide) ?_
        exact Steps.refl _)
      exact ⟨T11, some (.int 0), _, _, _, X11, rfl, rfl, rfl, (fun h => by cases h), ⟨0, rfl, hh11, Or.inr ⟨rfl, Cod.dif hx.2.2.2.2.1 hy.2.2.2.2.1 hcd⟩⟩, fun fs hl => c13.trans (X11.ireturnOut hexec hret rfl (Or.inr (Or.inl rfl)) (hb hbytes d55) hl)⟩
theorem pays {l : Launch} {R : Room} {p : Program} {e : Env} {below : List Frame} {s : State} {sargs : Array Value} {len W : Nat} (x t : Addr) (V : Cell) (cd : Int32) (n : Nat) (f : Nat → Int32) (y t' : Addr) (V' : Cell) (cd' : Int32) (k : Nat) (g : Nat → Int32) (z : Int32) (htab : tab.before sargs s = true) (hfr : 2 ≤ R.frames) (hlo : W + 28 ≤ R.locals) :
    Back l R p e below s sargs yN len W (fun A₁ a₁ => A₁.cells + 0 ≤ R.cells ∧ A₁.slots + 0 ≤ R.slots ∧ P x t V cd n f y t' V' cd' k g z a₁ A₁.U) (fun A₁ _ v₁ B₁ => Says01 (SameT n f k g) v₁ A₁.U B₁.U ∧ B₁.locs = A₁.locs ++ [] ∧ B₁.cells = A₁.cells + 0 ∧ B₁.slots = A₁.slots + 0) :=
  (law l x t V cd n f y t' V' cd' k g z).pays htab hfr (by omega)
end SEq
end StrChars
namespace StrChars.Road
open Jvm Sem ClassFile Op Lib Jvm.Stand Jvm.Free Jvm.Free.XT
open Jvm.Lib.Cold (StaticIs)
/-- the words of String.isEmpty() -/
abbrev wordsEmp : List Jvm.Cond := [.code Emp.yN Emp.yB 1 (some .boolean), .initialized ST, .fieldLink ST 9 ST "value" "[B"]
theorem tabEmp_of {a : Array Value} {s : State} (h : ∀ w ∈ wordsEmp, w.before a s = true) : Emp.tab.before a s = true := unparts (wk h (.code Emp.yN Emp.yB 1 (some .boolean))) (wks h (.initialized Emp.yN.cls :: Emp.site))
theorem movedEmp {Z s : State} {a0 args : Array Value} (hZ : Z.Warmed39 s.vm) (hw : ∀ d ∈ wordsEmp, d.before a0 Z = true) : ∀ d ∈ wordsEmp, d.before args s = true := fun d hd => by
  have t : ∀ d ∈ wordsEmp, (d.onTables && d.keepsFace) = true := by decide +kernel
  exact RoadKit.mv hZ (hw d hd) (t d hd)
/-- the words of String.equals(Object) -/
abbrev wordsEq : List Jvm.Cond := [.code SEq.yN SEq.yB 3 (some .boolean), .initialized ST, .classLink ST 10 ST, .fieldLink ST 38 ST "COMPACT_STRINGS" "Z", .fieldLink ST 15 ST "coder" "B", .fieldLink ST 9 ST "value" "[B", .methodLink ST 541 LEq.yN, .static LEq.yN, .code LEq.yN LEq.yB 3 (some .boolean), .initialized "java/lang/StringLatin1"]
theorem tabEq_of {a : Array Value} {s : State} (h : ∀ w ∈ wordsEq, w.before a s = true) : SEq.tab.before a s = true := by
  have hl : LEq.tab.before a s = true := unparts (wk h (.code LEq.yN LEq.yB 3 (some .boolean))) (wks h (.initialized LEq.yN.cls :: LEq.site))
  have q := consq hl h
  exact unparts (wk q (.code SEq.yN SEq.yB 3 (some .boolean))) (wks q (.initialized SEq.yN.cls :: SEq.site))
theorem movedEq {Z s : State} {a0 args : Array Value} (hZ : Z.Warmed39 s.vm) (hw : ∀ d ∈ wordsEq, d.before a0 Z = true) : ∀ d ∈ wordsEq, d.before args s = true := fun d hd => by
  have t : ∀ d ∈ wordsEq, (d.onTables && d.keepsFace) = true := by decide +kernel
  exact RoadKit.mv hZ (hw d hd) (t d hd)
/-- the road's facts of a String, as the laws ask it -/
theorem txt_of {Z U : State} {a0 : Array Value} {kI : Nat} (wi : (Jvm.Cond.instantiable ST kI).before a0 Z = true) (al : Z.vm.Alike U.vm) {x t : Addr} {kb : ClassId} {cs : List Int32} {cd N2 : Int32} {vs : List Value} (E : RoadKit.Exa Z U.heap x ST) (V : RoadKit.Fld Z U.heap x ST "value" "[B" (.ref t)) (C : RoadKit.Fld Z U.heap x ST "coder" "B" (.int cd)) (K : RoadKit.Arv Z U.heap t kb .byte N2 vs (.int 0)) (hc : CodA cs cd N2 vs) (hb : ∀ c ∈ cs, ¬ c < 0 ∧ ¬ (65535 : Int32) < c) (l2 : cs.length ≤ 4000) :
    ∃ A, Txt x t A cd cs.length (fun j => cs.getD j 0) U := by
  obtain ⟨A, K1, K2, K3, K4, K5, K6⟩ := K
  have hcod := hc.cod (by omega) K3 K5
  obtain ⟨D, fV, fC, hB, F1, F2, g1, g2, -, -⟩ := strObj wi al E V C
  exact ⟨A, ⟨_, hB.2.2.1, D, hB.1, rfl, by cases q : D.vm <;> first | rfl | exact absurd q (hB.2.1.2 _)⟩, Has.of hB F1 g1, Has.of hB F2 g2, ⟨K1.1, State.isArrayOf_alike al K1.2.1, K1.2.2, by rcases hcod with ⟨-, q, -⟩ | ⟨-, q, -⟩ <;> omega⟩, hcod, fun j hj => by
    have e : cs.getD j 0 = cs[j] := by simp [List.getD_eq_getElem?_getD, hj]
    show ¬ cs.getD j 0 < 0 ∧ ¬ 65535 < cs.getD j 0
    rw [e]; exact hb _ (List.getElem_mem _)⟩
theorem same_list (cs ds : List Int32) : SameT cs.length (fun j => cs.getD j 0) ds.length (fun j => ds.getD j 0) ↔ cs = ds := by
  constructor
  · rintro ⟨e, q⟩
    refine List.ext_getElem e fun j h1 h2 => ?_
    have := q j h1
    simpa [List.getD_eq_getElem?_getD, h1, h2] using this
  · rintro rfl
    exact ⟨rfl, fun _ _ => rfl⟩
/-- **isEmpty() OF SUCH A STRING** -/
theorem empW {p : Program} {l : Launch} {e : Env} {R : Room} {s : State} {args : Array Value} {below : List Frame} {len W : Nat} {Z : State} {a0 : Array Value} {h : Heap} (hZ : Z.Warmed39 s.vm) (hw : ∀ d ∈ wordsEmp, d.before a0 Z = true) {kI : Nat} (wi : (Jvm.Cond.instantiable ST kI).before a0 Z = true)
    {x t : Addr} {kb : ClassId} {cs : List Int32} {cd N2 : Int32} {vs : List Value} (E : RoadKit.Exa Z h x ST) (V : RoadKit.Fld Z h x ST "value" "[B" (.ref t)) (C : RoadKit.Fld Z h x ST "coder" "B" (.int cd)) (K : RoadKit.Arv Z h t kb .byte N2 vs (.int 0)) (hc : CodA cs cd N2 vs) (hb : ∀ c ∈ cs, ¬ c < 0 ∧ ¬ (65535 : Int32) < c) (l2 : cs.length ≤ 4000) (hfr : 1 ≤ R.frames) (hlo : W + 12 ≤ R.locals) :
    Back l R p e below s args (⟨"java/lang/String", "isEmpty", "()Z"⟩ : MethodName) len W (fun P a => a = #[.ref x] ∧ P.U.heap = h ∧ P.cells + 0 ≤ R.cells ∧ P.slots + 0 ≤ R.slots)
      (fun P _ v B => ∃ L, (v = some (.int (if cs.length = 0 then 1 else 0)) ∧ L = [] ∧ B.U.heap = h) ∧ B.locs = P.locs ++ L ∧ B.cells = P.cells + 0 ∧ B.slots = P.slots + 0) := by
  intro m meth c P g ig mk a X hg hsize hdg hW hn hp'
  obtain ⟨rfl, rfl, r1, r2⟩ := hp'
  have al : Z.vm.Alike P.U.vm := hZ.alike.trans X.warmed.alike
  obtain ⟨A, hx⟩ := txt_of wi al E V C K hc hb l2
  obtain ⟨v, B, X', ⟨⟨hv, hh⟩, hl, hk, hs⟩, st⟩ := Emp.pays x t A cd cs.length (fun j => cs.getD j 0) (tabEmp_of (movedEmp hZ hw)) hfr hlo m meth c P g ig mk _ X hg hsize hdg hW hn ⟨r1, r2, rfl, hx⟩
  exact ⟨v, B, X', ⟨[], ⟨hv, rfl, hh⟩, hl, hk, hs⟩, st⟩
/-- **equals(Object) OF TWO SUCH STRINGS**: 1 just where the chars are the same -/
theorem eqW {p : Program} {l : Launch} {e : Env} {R : Room} {s : State} {args : Array Value} {below : List Frame} {len W : Nat} {Z : State} {a0 : Array Value} {h : Heap} (hZ : Z.Warmed39 s.vm) (hw : ∀ d ∈ wordsEq, d.before a0 Z = true) {kI : Nat} (wi : (Jvm.Cond.instantiable ST kI).before a0 Z = true)
    {x t : Addr} {kb : ClassId} {cs : List Int32} {cd N2 : Int32} {vs : List Value} (E : RoadKit.Exa Z h x ST) (V : RoadKit.Fld Z h x ST "value" "[B" (.ref t)) (C : RoadKit.Fld Z h x ST "coder" "B" (.int cd)) (K : RoadKit.Arv Z h t kb .byte N2 vs (.int 0)) (hc : CodA cs cd N2 vs) (hb : ∀ c ∈ cs, ¬ c < 0 ∧ ¬ (65535 : Int32) < c) (l2 : cs.length ≤ 4000)
    {y t' : Addr} {kb' : ClassId} {ds : List Int32} {cd' N2' : Int32} {vs' : List Value} (E' : RoadKit.Exa Z h y ST) (V' : RoadKit.Fld Z h y ST "value" "[B" (.ref t')) (C' : RoadKit.Fld Z h y ST "coder" "B" (.int cd')) (K' : RoadKit.Arv Z h t' kb' .byte N2' vs' (.int 0)) (hc' : CodA ds cd' N2' vs') (hb' : ∀ c ∈ ds, ¬ c < 0 ∧ ¬ (65535 : Int32) < c) (l2' : ds.length ≤ 4000)
    {z : Int32} (S : RoadKit.Sta Z h ST "COMPACT_STRINGS" "Z" (.int z)) (hz : ¬ z = 0) (hfr : 2 ≤ R.frames) (hlo : W + 28 ≤ R.locals) :
    Back l R p e below s args (⟨"java/lang/String", "equals", "(Ljava/lang/Object;)Z"⟩ : MethodName) len W (fun P a => a = #[.ref x, .ref y] ∧ P.U.heap = h ∧ P.cells + 0 ≤ R.cells ∧ P.slots + 0 ≤ R.slots)
      (fun P _ v B => ∃ L, (((v = some (.int 1) ∧ cs = ds) ∨ (v = some (.int 0) ∧ ¬ cs = ds)) ∧ L = [] ∧ B.U.heap = h) ∧ B.locs = P.locs ++ L ∧ B.cells = P.cells + 0 ∧ B.slots = P.slots + 0) := by
  intro m meth c P g ig mk a X hg hsize hdg hW hn hp'
  obtain ⟨rfl, rfl, r1, r2⟩ := hp'
  have al : Z.vm.Alike P.U.vm := hZ.alike.trans X.warmed.alike
  obtain ⟨A, hx⟩ := txt_of wi al E V C K hc hb l2
  obtain ⟨A', hy⟩ := txt_of wi al E' V' C' K' hc' hb' l2'
  obtain ⟨v, B, X', ⟨⟨w, hv, hh, hq⟩, hl, hk, hs⟩, st⟩ := SEq.pays x t A cd cs.length (fun j => cs.getD j 0) y t' A' cd' ds.length (fun j => ds.getD j 0) z (tabEq_of (movedEq hZ hw)) hfr hlo m meth c P g ig mk _ X hg hsize hdg hW hn ⟨r1, r2, rfl, hx, hy, sta_is al S, hz⟩
  refine ⟨v, B, X', ⟨[], ⟨?_, rfl, hh⟩, hl, hk, hs⟩, st⟩
  rcases hq with ⟨rfl, q⟩ | ⟨rfl, q⟩
  · exact Or.inl ⟨hv, (same_list cs ds).mp q⟩
  · exact Or.inr ⟨hv, fun e => q ((same_list cs ds).mpr e)⟩
end StrChars.Road
end Jvm.Pilot.@@N@@

namespace Jvm.Pilot.@@N@@
open Jvm Jvm.ClassFile Sem Op Lib Jvm.Free Jvm.Stand Jvm.LawKit Jvm.RoadKit Bundle Jvm.Pilot.@@N@@.Jvm.D
theorem own_cast {tb : Tables} {e : Env} {below : List Frame} {T : State} {g g' : JFrame} {t : State} (q : g = g') (k : Steps tb e below (T.setTop g') t) : Steps tb e below (T.setTop g) t := q ▸ k
section Own
variable {p : Program} {l : Launch} {e : Env} {R : Room} {s : State} {m : MethodId} {args : Array Value} {below : List Frame} {meth : Method} {c : Code} {T T' : State} {locs : List Loc} {cells slots : Nat} {g g' : JFrame} {K : Outcome → State → Prop} {h : Heap}
/-- the run from T with g on top comes to an end at which K holds -/
def own_Go (p : Program) (e : Env) (below : List Frame) (K : Outcome → State → Prop) (T : State) (g : JFrame) : Prop := ∃ t o, Steps p.tables e below (T.setTop g) t ∧ t.status = .running ∧ Ended t below o ∧ K o t
def own_K (s : State) (Q : Option Value → Heap → List Loc → Prop) (kc ks : Nat) : Outcome → State → Prop := fun o t => ∃ v L, o = .returned v ∧ Q v t.heap L ∧ FrameEnd s o t L kc ks
theorem own_st (k : ∀ t, Steps p.tables e below (T'.setTop g') t → Steps p.tables e below (T.setTop g) t) (h : own_Go p e below K T' g') : own_Go p e below K T g := by
  obtain ⟨t, o, h1, h2⟩ := h; exact ⟨t, o, k t h1, h2⟩
theorem own_tr (k : Steps p.tables e below (T.setTop g) (T'.setTop g')) (h : own_Go p e below K T' g') : own_Go p e below K T g := by
  obtain ⟨t, o, h1, h2⟩ := h; exact ⟨t, o, k.trans h1, h2⟩
theorem own_in (q : g = g') (h : own_Go p e below K T g') : ∃ t o, Steps p.tables e below (T.setTop g) t ∧ t.status = .running ∧ Ended t below o ∧ K o t := by
  obtain ⟨t, o, h1, h2⟩ := h; exact ⟨t, o, own_cast q h1, h2⟩
variable {Q : Option Value → Heap → List Loc → Prop} {kc ks pc : Nat} {Ls : Array Slot} {rest : List Value} {x : MethodName} {S : Spec} {code : ByteArray} {maxLocals : Nat} {s₁ : State}
theorem own_end (X : Stand p l e R s m args below meth c T locs cells slots) {v : Option Value} (hv : meth.sig.returnType = none → v = none) (hlk : meth.locks = false) (eT : T.heap = h) (hQ : Q v h locs) (hc : cells ≤ kc) (hs : slots ≤ ks)
    (k : ∀ fs, (∀ (f : JFrame) (acts : List Action), f.method = m → f.locked = none → f.entered = [] → (doReturn e (T.setTop f) acts v).1 = T.setFrames fs) → Steps p.tables e below (T.setTop g) (T.setFrames fs)) : own_Go p e below (own_K s Q kc ks) T g := by
  obtain ⟨fs, hr, hrun, hended, hW, hsame⟩ := X.leave (v := v) hv hlk
  refine ⟨_, _, k fs hr, hrun, hended, v, locs, rfl, ?_, ⟨_, rfl⟩, hW, hsame.mono hc hs⟩
  show Q v T.heap locs
  rw [eT]; exact hQ
theorem own_retI (X : Stand p l e R s m args below meth c T locs cells slots) (hx : p.tables.exec = Jvm.exec) (Bd : BodyLoose p l x S code maxLocals (some .int) e s m args below meth c s₁) {z : Int32} (hd : decode c.code pc = .ok (.ireturn, 1)) (eT : T.heap = h) (hQ : Q (some (.int z)) h locs) (hc : cells ≤ kc) (hs : slots ≤ ks) :
    own_Go p e below (own_K s Q kc ks) T (mkF m pc Ls (.int z :: rest)) :=
  own_end X (fun h => by rw [Bd.returns] at h; cases h) Bd.notSynchronized eT hQ hc hs fun fs hr => retOut X hx Bd.returns rfl (Or.inl ⟨rfl, Or.inl rfl, z, rfl⟩) hd hr
theorem own_retJ (X : Stand p l e R s m args below meth c T locs cells slots) (hx : p.tables.exec = Jvm.exec) (Bd : BodyLoose p l x S code maxLocals (some .long) e s m args below meth c s₁) {z : Int64} (hd : decode c.code pc = .ok (.lreturn, 1)) (eT : T.heap = h) (hQ : Q (some (.long z)) h locs) (hc : cells ≤ kc) (hs : slots ≤ ks) :
    own_Go p e below (own_K s Q kc ks) T (mkF m pc Ls (.long z :: rest)) :=
  own_end X (fun h => by rw [Bd.returns] at h; cases h) Bd.notSynchronized eT hQ hc hs fun fs hr => retOut X hx Bd.returns rfl (Or.inr (Or.inl ⟨rfl, rfl, z, rfl⟩)) hd hr
theorem own_retN (X : Stand p l e R s m args below meth c T locs cells slots) (hx : p.tables.exec = Jvm.exec) {t : FieldType} (Bd : BodyLoose p l x S code maxLocals (some t) e s m args below meth c s₁) (ht : t = .boolean ∨ t = .byte ∨ t = .char ∨ t = .short) {z : Int32} (hn : narrow t (.int z) = .int z) (hd : decode c.code pc = .ok (.ireturn, 1)) (eT : T.heap = h) (hQ : Q (some (.int z)) h locs) (hc : cells ≤ kc) (hs : slots ≤ ks) :
    own_Go p e below (own_K s Q kc ks) T (mkF m pc Ls (.int z :: rest)) :=
  own_end X (fun h => by rw [Bd.returns] at h; cases h) Bd.notSynchronized eT hQ hc hs fun fs hr => retOut X hx Bd.returns hn (Or.inl ⟨rfl, Or.inr ht, z, rfl⟩) hd hr
theorem own_retA (X : Stand p l e R s m args below meth c T locs cells slots) (hx : p.tables.exec = Jvm.exec) {t : FieldType} (Bd : BodyLoose p l x S code maxLocals (some t) e s m args below meth c s₁) (ht : t.isReference = true) {w : Value} (hw : w.isRef = true) (hd : decode c.code pc = .ok (.areturn, 1)) (eT : T.heap = h) (hQ : Q (some w) h locs) (hc : cells ≤ kc) (hs : slots ≤ ks) :
    own_Go p e below (own_K s Q kc ks) T (mkF m pc Ls (w :: rest)) :=
  own_end X (fun h => by rw [Bd.returns] at h; cases h) Bd.notSynchronized eT hQ hc hs fun fs hr => retOut X hx Bd.returns (by cases t <;> first | (cases ht; done) | rfl) (Or.inr (Or.inr (Or.inr (Or.inr ⟨rfl, ht, hw⟩)))) hd hr
theorem own_retV (X : Stand p l e R s m args below meth c T locs cells slots) (hx : p.tables.exec = Jvm.exec) (Bd : BodyLoose p l x S code maxLocals none e s m args below meth c s₁) (hd : decode c.code pc = .ok (.return_, 1)) (eT : T.heap = h) (hQ : Q none h locs) (hc : cells ≤ kc) (hs : slots ≤ ks) :
    own_Go p e below (own_K s Q kc ks) T (mkF m pc Ls []) :=
  own_end X (fun _ => rfl) Bd.notSynchronized eT hQ hc hs fun fs hr => X.returnOut hx Bd.returns hd hr
end Own
theorem own_Sta_keep {Z : State} {h h' : Heap} {C n d : String} {v : Value} {ws : List Addr} (F : Sta Z h C n d v) (K : Keep h h' ws) (q : ∀ x ∈ ws, ∀ cell : Cell, h[x]? = some cell → cell.vm.isStatics = false) : Sta Z h' C n d v := by
  obtain ⟨cf, i, k, f, st, cell, h1, h2, h3, h4, h5, h6, h7⟩ := F
  exact ⟨cf, i, k, f, st, cell, h1, h2, h3, h4, K.2.1 _ _ h5 (fun hm => by rw [q _ hm _ h5] at h6; cases h6), h6, h7⟩
theorem own_Ins_keep {Z : State} {h h' : Heap} {a : Addr} {C : String} {b : Bool} {ws : List Addr} (F : Ins Z h a C b) (K : Keep h h' ws) : Ins Z h' a C b := by
  obtain ⟨cell, cT, h1, h2, h3⟩ := F
  obtain ⟨c', e1, e2, e3, -⟩ := K.2.2 _ _ h1
  exact ⟨c', cT, e1, h2, by rw [e2, e3]; exact h3⟩
theorem own_enum {Z : State} {args : Array Value} {C D n d : String} (h : (Cond.exactly (Term.static C n d) D).value args Z none Z [] = some true) (hi : (Cond.initializedFor C n d).before args Z = true ∨ ((Cond.initialized C).before args Z = true ∧ (Cond.laysStatic C n d).before args Z = true)) :
    ∃ a, (Term.static C n d).eval args Z none [] Z = some (.ref a) ∧ Sta Z Z.heap C n d (.ref a) ∧ Exa Z Z.heap a D := by
  obtain ⟨a, e⟩ := exa_v h
  exact ⟨a, e, Sta.start e hi, Exa.start e h⟩
theorem own_ord {Z : State} {args : Array Value} {t : Term} {a : Addr} {O n d : String} {k : Int32} (e : t.eval args Z none [] Z = some (.ref a)) (h : (Cond.eq (Term.field t O n d) (Term.int k)).value args Z none Z [] = some true) : Fld Z Z.heap a O n d (.int k) := by
  refine Fld.start ?_
  have q := fld_at (C := O) (n := n) (dd := d) (first := Z) (o := none) (idx := []) (args := args) e
  obtain ⟨x, y, h1, h2, -⟩ := cmp_v (Or.inl h)
  rw [q] at h1
  have h2' : some (Value.int k) = some y := h2
  cases h2'
  cases x <;> simp [Cond.value, Term.eval, e, h1] at h
  rw [h1, h]
section OwnW
variable {p : Program} {l : Launch} {e : Env} {R : Room} {s : State} {m : MethodId} {args : Array Value} {below : List Frame} {meth : Method} {c : Code} {T T' : State} {locs : List Loc} {cells slots : Nat} {g g' : JFrame} {h : Heap} {vm : Vm} {n : Nat}
def own_KW (s : State) (Q : Option Value → Heap → List Loc → Prop) (kc ks : Nat) : Outcome → State → Prop := fun o t => ∃ v L, o = .returned v ∧ Q v t.heap L ∧ ReturnedEndW s o t L kc ks
variable {Q : Option Value → Heap → List Loc → Prop} {kc ks pc : Nat} {Ls : Array Slot} {rest : List Value} {x : MethodName} {S : Spec} {code : ByteArray} {maxLocals : Nat} {s₁ : State}
theorem own_endW (X : Stand p l e R (s.setVm vm) m args below meth c T locs cells slots) {v : Option Value} (hv : meth.sig.returnType = none → v = none) (hlk : meth.locks = false) (eT : T.heap = h) (hQ : Q v h locs) (hS : s.Since vm n) (hn : n ≤ h.size) (hc : cells ≤ kc) (hs : slots ≤ ks)
    (k : ∀ fs, (∀ (f : JFrame) (acts : List Action), f.method = m → f.locked = none → f.entered = [] → (doReturn e (T.setTop f) acts v).1 = T.setFrames fs) → Steps p.tables e below (T.setTop g) (T.setFrames fs)) : own_Go p e below (own_KW s Q kc ks) T g := by
  obtain ⟨fs, hr, hrun, hended, h1, h2, h3, h4⟩ := X.leaveW hS (by rw [eT]; exact hn) (v := v) hv hlk
  refine ⟨_, _, k fs hr, hrun, hended, v, locs, rfl, ?_, h1, h2, h3, h4.mono hc hs⟩
  show Q v T.heap locs
  rw [eT]; exact hQ
theorem own_retIW (X : Stand p l e R (s.setVm vm) m args below meth c T locs cells slots) (hx : p.tables.exec = Jvm.exec) (Bd : BodyLoose p l x S code maxLocals (some .int) e s m args below meth c s₁) {z : Int32} (hd : decode c.code pc = .ok (.ireturn, 1)) (eT : T.heap = h) (hQ : Q (some (.int z)) h locs) (hS : s.Since vm n) (hn : n ≤ h.size) (hc : cells ≤ kc) (hs : slots ≤ ks) :
    own_Go p e below (own_KW s Q kc ks) T (mkF m pc Ls (.int z :: rest)) :=
  own_endW X (fun h => by rw [Bd.returns] at h; cases h) Bd.notSynchronized eT hQ hS hn hc hs fun fs hr => retOut X hx Bd.returns rfl (Or.inl ⟨rfl, Or.inl rfl, z, rfl⟩) hd hr
theorem own_retJW (X : Stand p l e R (s.setVm vm) m args below meth c T locs cells slots) (hx : p.tables.exec = Jvm.exec) (Bd : BodyLoose p l x S code maxLocals (some .long) e s m args below meth c s₁) {z : Int64} (hd : decode c.code pc = .ok (.lreturn, 1)) (eT : T.heap = h) (hQ : Q (some (.long z)) h locs) (hS : s.Since vm n) (hn : n ≤ h.size) (hc : cells ≤ kc) (hs : slots ≤ ks) :
    own_Go p e below (own_KW s Q kc ks) T (mkF m pc Ls (.long z :: rest)) :=
  own_endW X (fun h => by rw [Bd.returns] at h; cases h) Bd.notSynchronized eT hQ hS hn hc hs fun fs hr => retOut X hx Bd.returns rfl (Or.inr (Or.inl ⟨rfl, rfl, z, rfl⟩)) hd hr
theorem own_retNW (X : Stand p l e R (s.setVm vm) m args below meth c T locs cells slots) (hx : p.tables.exec = Jvm.exec) {t : FieldType} (Bd : BodyLoose p l x S code maxLocals (some t) e s m args below meth c s₁) (ht : t = .boolean ∨ t = .byte ∨ t = .char ∨ t = .short) {z : Int32} (hn' : narrow t (.int z) = .int z) (hd : decode c.code pc = .ok (.ireturn, 1)) (eT : T.heap = h) (hQ : Q (some (.int z)) h locs) (hS : s.Since vm n) (hn : n ≤ h.size) (hc : cells ≤ kc) (hs : slots ≤ ks) :
    own_Go p e below (own_KW s Q kc ks) T (mkF m pc Ls (.int z :: rest)) :=
  own_endW X (fun h => by rw [Bd.returns] at h; cases h) Bd.notSynchronized eT hQ hS hn hc hs fun fs hr => retOut X hx Bd.returns hn' (Or.inl ⟨rfl, Or.inr ht, z, rfl⟩) hd hr
theorem own_retAW (X : Stand p l e R (s.setVm vm) m args below meth c T locs cells slots) (hx : p.tables.exec = Jvm.exec) {t : FieldType} (Bd : BodyLoose p l x S code maxLocals (some t) e s m args below meth c s₁) (ht : t.isReference = true) {w : Value} (hw : w.isRef = true) (hd : decode c.code pc = .ok (.areturn, 1)) (eT : T.heap = h) (hQ : Q (some w) h locs) (hS : s.Since vm n) (hn : n ≤ h.size) (hc : cells ≤ kc) (hs : slots ≤ ks) :
    own_Go p e below (own_KW s Q kc ks) T (mkF m pc Ls (w :: rest)) :=
  own_endW X (fun h => by rw [Bd.returns] at h; cases h) Bd.notSynchronized eT hQ hS hn hc hs fun fs hr => retOut X hx Bd.returns (by cases t <;> first | (cases ht; done) | rfl) (Or.inr (Or.inr (Or.inr (Or.inr ⟨rfl, ht, hw⟩)))) hd hr
theorem own_retVW (X : Stand p l e R (s.setVm vm) m args below meth c T locs cells slots) (hx : p.tables.exec = Jvm.exec) (Bd : BodyLoose p l x S code maxLocals none e s m args below meth c s₁) (hd : decode c.code pc = .ok (.return_, 1)) (eT : T.heap = h) (hQ : Q none h locs) (hS : s.Since vm n) (hn : n ≤ h.size) (hc : cells ≤ kc) (hs : slots ≤ ks) :
    own_Go p e below (own_KW s Q kc ks) T (mkF m pc Ls []) :=
  own_endW X (fun _ => rfl) Bd.notSynchronized eT hQ hS hn hc hs fun fs hr => X.returnOut hx Bd.returns hd hr
end OwnW
theorem own_sa : ∀ d ∈ Bundle.stringAtoms, d ∈ tables_1 := by decide +kernel
theorem own_bb (x : Int32) : x.toInt8.toInt32.toInt8.toInt32 = x.toInt8.toInt32 := by simp
theorem own_cc (x : Int32) : x.toUInt32.toUInt16.toUInt32.toInt32.toUInt32.toUInt16.toUInt32.toInt32 = x.toUInt32.toUInt16.toUInt32.toInt32 := by simp only [UInt32.toUInt32_toInt32, UInt16.toUInt16_toUInt32]
theorem own_nar_ref {t : FieldType} {v : Value} (h : v.isRef = true) (ht : t.isReference = true) : narrow t v = v := by cases t <;> first | (cases ht; done) | rfl
theorem own_fits_ref {t : FieldType} {v : Value} (h : v.isRef = true) (ht : t.isReference = true) : fits t v = true := by rcases ref_cases h with rfl | ⟨a, rfl⟩ <;> cases t <;> first | (cases ht; done) | rfl
theorem own_nar_b {z : Int32} (h : z = 0 ∨ z = 1) : narrow .boolean (.int z) = .int z := by rcases h with rfl | rfl <;> rfl
theorem own_fits_b {z : Int32} (h : z = 0 ∨ z = 1) : fits .boolean (.int z) = true := by rcases h with rfl | rfl <;> rfl
theorem own_d24_104 : decode jdk_33_method_12_code 104 = .ok (.iload 6, 2) := by decide +kernel
theorem own_d24_106 : decode jdk_33_method_12_code 106 = .ok (.ifCond .eq 12, 3) := by decide +kernel
theorem own_d24_118 : decode jdk_33_method_12_code 118 = .ok (.iload 5, 2) := by decide +kernel
theorem own_d24_120 : decode jdk_33_method_12_code 120 = .ok (.ireturn, 1) := by decide +kernel
theorem own_d24_109 : decode jdk_33_method_12_code 109 = .ok (.aload_n 2, 1) := by decide +kernel
theorem own_d24_110 : decode jdk_33_method_12_code 110 = .ok (.iinc 5 (-1), 3) := by decide +kernel
theorem own_d24_113 : decode jdk_33_method_12_code 113 = .ok (.iload 5, 2) := by decide +kernel
theorem own_d24_115 : decode jdk_33_method_12_code 115 = .ok (.bipush 45, 2) := by decide +kernel
theorem own_d24_117 : decode jdk_33_method_12_code 117 = .ok (.bastore, 1) := by decide +kernel
theorem own_d24_22 : decode jdk_33_method_12_code 22 = .ok (.iload_n 0, 1) := by decide +kernel
theorem own_d24_23 : decode jdk_33_method_12_code 23 = .ok (.bipush (-100), 2) := by decide +kernel
theorem own_d24_25 : decode jdk_33_method_12_code 25 = .ok (.if_icmp .gt 47, 3) := by decide +kernel
theorem own_d24_72 : decode jdk_33_method_12_code 72 = .ok (.aload_n 2, 1) := by decide +kernel
theorem own_d24_73 : decode jdk_33_method_12_code 73 = .ok (.iinc 5 (-1), 3) := by decide +kernel
theorem own_d24_76 : decode jdk_33_method_12_code 76 = .ok (.iload 5, 2) := by decide +kernel
theorem own_d24_78 : decode jdk_33_method_12_code 78 = .ok (.getstatic 83, 3) := by decide +kernel
theorem own_d24_81 : decode jdk_33_method_12_code 81 = .ok (.iload_n 0, 1) := by decide +kernel
theorem own_d24_82 : decode jdk_33_method_12_code 82 = .ok (.ineg, 1) := by decide +kernel
theorem own_d24_83 : decode jdk_33_method_12_code 83 = .ok (.baload, 1) := by decide +kernel
theorem own_d24_84 : decode jdk_33_method_12_code 84 = .ok (.bastore, 1) := by decide +kernel
theorem own_d24_85 : decode jdk_33_method_12_code 85 = .ok (.iload_n 0, 1) := by decide +kernel
theorem own_d24_86 : decode jdk_33_method_12_code 86 = .ok (.bipush (-9), 2) := by decide +kernel
theorem own_d24_88 : decode jdk_33_method_12_code 88 = .ok (.if_icmp .ge 16, 3) := by decide +kernel
theorem own_d24_91 : decode jdk_33_method_12_code 91 = .ok (.aload_n 2, 1) := by decide +kernel
theorem own_d24_92 : decode jdk_33_method_12_code 92 = .ok (.iinc 5 (-1), 3) := by decide +kernel
theorem own_d24_95 : decode jdk_33_method_12_code 95 = .ok (.iload 5, 2) := by decide +kernel
theorem own_d24_97 : decode jdk_33_method_12_code 97 = .ok (.getstatic 87, 3) := by decide +kernel
theorem own_d24_100 : decode jdk_33_method_12_code 100 = .ok (.iload_n 0, 1) := by decide +kernel
theorem own_d24_101 : decode jdk_33_method_12_code 101 = .ok (.ineg, 1) := by decide +kernel
theorem own_d24_102 : decode jdk_33_method_12_code 102 = .ok (.baload, 1) := by decide +kernel
theorem own_d24_103 : decode jdk_33_method_12_code 103 = .ok (.bastore, 1) := by decide +kernel
theorem own_d24_28 : decode jdk_33_method_12_code 28 = .ok (.iload_n 0, 1) := by decide +kernel
theorem own_d24_29 : decode jdk_33_method_12_code 29 = .ok (.bipush 100, 2) := by decide +kernel
theorem own_d24_31 : decode jdk_33_method_12_code 31 = .ok (.idiv, 1) := by decide +kernel
theorem own_d24_32 : decode jdk_33_method_12_code 32 = .ok (.istore_n 3, 1) := by decide +kernel
theorem own_d24_33 : decode jdk_33_method_12_code 33 = .ok (.iload_n 3, 1) := by decide +kernel
theorem own_d24_34 : decode jdk_33_method_12_code 34 = .ok (.bipush 100, 2) := by decide +kernel
theorem own_d24_36 : decode jdk_33_method_12_code 36 = .ok (.imul, 1) := by decide +kernel
theorem own_d24_37 : decode jdk_33_method_12_code 37 = .ok (.iload_n 0, 1) := by decide +kernel
theorem own_d24_38 : decode jdk_33_method_12_code 38 = .ok (.isub, 1) := by decide +kernel
theorem own_d24_39 : decode jdk_33_method_12_code 39 = .ok (.istore 4, 2) := by decide +kernel
theorem own_d24_41 : decode jdk_33_method_12_code 41 = .ok (.iload_n 3, 1) := by decide +kernel
theorem own_d24_42 : decode jdk_33_method_12_code 42 = .ok (.istore_n 0, 1) := by decide +kernel
theorem own_d24_43 : decode jdk_33_method_12_code 43 = .ok (.aload_n 2, 1) := by decide +kernel
theorem own_d24_44 : decode jdk_33_method_12_code 44 = .ok (.iinc 5 (-1), 3) := by decide +kernel
theorem own_d24_47 : decode jdk_33_method_12_code 47 = .ok (.iload 5, 2) := by decide +kernel
theorem own_d24_49 : decode jdk_33_method_12_code 49 = .ok (.getstatic 83, 3) := by decide +kernel
theorem own_d24_52 : decode jdk_33_method_12_code 52 = .ok (.iload 4, 2) := by decide +kernel
theorem own_d24_54 : decode jdk_33_method_12_code 54 = .ok (.baload, 1) := by decide +kernel
theorem own_d24_55 : decode jdk_33_method_12_code 55 = .ok (.bastore, 1) := by decide +kernel
theorem own_d24_56 : decode jdk_33_method_12_code 56 = .ok (.aload_n 2, 1) := by decide +kernel
theorem own_d24_57 : decode jdk_33_method_12_code 57 = .ok (.iinc 5 (-1), 3) := by decide +kernel
theorem own_d24_60 : decode jdk_33_method_12_code 60 = .ok (.iload 5, 2) := by decide +kernel
theorem own_d24_62 : decode jdk_33_method_12_code 62 = .ok (.getstatic 87, 3) := by decide +kernel
theorem own_d24_65 : decode jdk_33_method_12_code 65 = .ok (.iload 4, 2) := by decide +kernel
theorem own_d24_67 : decode jdk_33_method_12_code 67 = .ok (.baload, 1) := by decide +kernel
theorem own_d24_68 : decode jdk_33_method_12_code 68 = .ok (.bastore, 1) := by decide +kernel
theorem own_d24_69 : decode jdk_33_method_12_code 69 = .ok (.goto (-47), 3) := by decide +kernel
theorem own_d24_0 : decode jdk_33_method_12_code 0 = .ok (.iload_n 1, 1) := by decide +kernel
theorem own_d24_1 : decode jdk_33_method_12_code 1 = .ok (.istore 5, 2) := by decide +kernel
theorem own_d24_3 : decode jdk_33_method_12_code 3 = .ok (.iload_n 0, 1) := by decide +kernel
theorem own_d24_4 : decode jdk_33_method_12_code 4 = .ok (.ifCond .ge 7, 3) := by decide +kernel
theorem own_d24_7 : decode jdk_33_method_12_code 7 = .ok (.iconst 1, 1) := by decide +kernel
theorem own_d24_8 : decode jdk_33_method_12_code 8 = .ok (.goto 4, 3) := by decide +kernel
theorem own_d24_12 : decode jdk_33_method_12_code 12 = .ok (.istore 6, 2) := by decide +kernel
theorem own_d24_14 : decode jdk_33_method_12_code 14 = .ok (.iload 6, 2) := by decide +kernel
theorem own_d24_16 : decode jdk_33_method_12_code 16 = .ok (.ifCond .ne 6, 3) := by decide +kernel
theorem own_d24_11 : decode jdk_33_method_12_code 11 = .ok (.iconst 0, 1) := by decide +kernel
theorem own_d24_19 : decode jdk_33_method_12_code 19 = .ok (.iload_n 0, 1) := by decide +kernel
theorem own_d24_20 : decode jdk_33_method_12_code 20 = .ok (.ineg, 1) := by decide +kernel
theorem own_d24_21 : decode jdk_33_method_12_code 21 = .ok (.istore_n 0, 1) := by decide +kernel
theorem own_pn0 : plainName "java/lang/Integer" = true := by first | (simp [plainName, overriddenIn]; done) | decide +kernel
theorem own_d22_0 : decode jdk_33_method_13_code 0 = .ok (.iconst 1, 1) := by decide +kernel
theorem own_d22_1 : decode jdk_33_method_13_code 1 = .ok (.istore_n 1, 1) := by decide +kernel
theorem own_d22_2 : decode jdk_33_method_13_code 2 = .ok (.iload_n 0, 1) := by decide +kernel
theorem own_d22_3 : decode jdk_33_method_13_code 3 = .ok (.ifCond .lt 8, 3) := by decide +kernel
theorem own_d22_11 : decode jdk_33_method_13_code 11 = .ok (.bipush (-10), 2) := by decide +kernel
theorem own_d22_13 : decode jdk_33_method_13_code 13 = .ok (.istore_n 2, 1) := by decide +kernel
theorem own_d22_14 : decode jdk_33_method_13_code 14 = .ok (.iconst 1, 1) := by decide +kernel
theorem own_d22_15 : decode jdk_33_method_13_code 15 = .ok (.istore_n 3, 1) := by decide +kernel
theorem own_d22_16 : decode jdk_33_method_13_code 16 = .ok (.iload_n 3, 1) := by decide +kernel
theorem own_d22_17 : decode jdk_33_method_13_code 17 = .ok (.bipush 10, 2) := by decide +kernel
theorem own_d22_19 : decode jdk_33_method_13_code 19 = .ok (.if_icmp .ge 23, 3) := by decide +kernel
theorem own_d22_22 : decode jdk_33_method_13_code 22 = .ok (.iload_n 0, 1) := by decide +kernel
theorem own_d22_23 : decode jdk_33_method_13_code 23 = .ok (.iload_n 2, 1) := by decide +kernel
theorem own_d22_24 : decode jdk_33_method_13_code 24 = .ok (.if_icmp .le 7, 3) := by decide +kernel
theorem own_d22_27 : decode jdk_33_method_13_code 27 = .ok (.iload_n 3, 1) := by decide +kernel
theorem own_d22_28 : decode jdk_33_method_13_code 28 = .ok (.iload_n 1, 1) := by decide +kernel
theorem own_d22_29 : decode jdk_33_method_13_code 29 = .ok (.iadd, 1) := by decide +kernel
theorem own_d22_30 : decode jdk_33_method_13_code 30 = .ok (.ireturn, 1) := by decide +kernel
theorem own_d22_31 : decode jdk_33_method_13_code 31 = .ok (.bipush 10, 2) := by decide +kernel
theorem own_d22_33 : decode jdk_33_method_13_code 33 = .ok (.iload_n 2, 1) := by decide +kernel
theorem own_d22_34 : decode jdk_33_method_13_code 34 = .ok (.imul, 1) := by decide +kernel
theorem own_d22_35 : decode jdk_33_method_13_code 35 = .ok (.istore_n 2, 1) := by decide +kernel
theorem own_d22_36 : decode jdk_33_method_13_code 36 = .ok (.iinc 3 1, 3) := by decide +kernel
theorem own_d22_39 : decode jdk_33_method_13_code 39 = .ok (.goto (-23), 3) := by decide +kernel
theorem own_d22_42 : decode jdk_33_method_13_code 42 = .ok (.bipush 10, 2) := by decide +kernel
theorem own_d22_44 : decode jdk_33_method_13_code 44 = .ok (.iload_n 1, 1) := by decide +kernel
theorem own_d22_45 : decode jdk_33_method_13_code 45 = .ok (.iadd, 1) := by decide +kernel
theorem own_d22_46 : decode jdk_33_method_13_code 46 = .ok (.ireturn, 1) := by decide +kernel
theorem own_d22_6 : decode jdk_33_method_13_code 6 = .ok (.iconst 0, 1) := by decide +kernel
theorem own_d22_7 : decode jdk_33_method_13_code 7 = .ok (.istore_n 1, 1) := by decide +kernel
theorem own_d22_8 : decode jdk_33_method_13_code 8 = .ok (.iload_n 0, 1) := by decide +kernel
theorem own_d22_9 : decode jdk_33_method_13_code 9 = .ok (.ineg, 1) := by decide +kernel
theorem own_d22_10 : decode jdk_33_method_13_code 10 = .ok (.istore_n 0, 1) := by decide +kernel
theorem own_d40_0 : decode method_3_code 0 = .ok (.lload_n 0, 1) := by decide +kernel
theorem own_d40_1 : decode method_3_code 1 = .ok (.ldc2_w 46, 3) := by decide +kernel
theorem own_d40_4 : decode method_3_code 4 = .ok (.lcmp, 1) := by decide +kernel
theorem own_d40_5 : decode method_3_code 5 = .ok (.ifCond .ge 5, 3) := by decide +kernel
theorem own_d40_8 : decode method_3_code 8 = .ok (.iconst 1, 1) := by decide +kernel
theorem own_d40_9 : decode method_3_code 9 = .ok (.ireturn, 1) := by decide +kernel
theorem own_d40_10 : decode method_3_code 10 = .ok (.lload_n 0, 1) := by decide +kernel
theorem own_d40_11 : decode method_3_code 11 = .ok (.ldc2_w 48, 3) := by decide +kernel
theorem own_d40_14 : decode method_3_code 14 = .ok (.lcmp, 1) := by decide +kernel
theorem own_d40_15 : decode method_3_code 15 = .ok (.ifCond .ge 5, 3) := by decide +kernel
theorem own_d40_18 : decode method_3_code 18 = .ok (.iconst 2, 1) := by decide +kernel
theorem own_d40_19 : decode method_3_code 19 = .ok (.ireturn, 1) := by decide +kernel
theorem own_d40_20 : decode method_3_code 20 = .ok (.lload_n 0, 1) := by decide +kernel
theorem own_d40_21 : decode method_3_code 21 = .ok (.ldc2_w 50, 3) := by decide +kernel
theorem own_d40_24 : decode method_3_code 24 = .ok (.lcmp, 1) := by decide +kernel
theorem own_d40_25 : decode method_3_code 25 = .ok (.ifCond .ge 5, 3) := by decide +kernel
theorem own_d40_28 : decode method_3_code 28 = .ok (.iconst 3, 1) := by decide +kernel
theorem own_d40_29 : decode method_3_code 29 = .ok (.ireturn, 1) := by decide +kernel
theorem own_d40_30 : decode method_3_code 30 = .ok (.lload_n 0, 1) := by decide +kernel
theorem own_d40_31 : decode method_3_code 31 = .ok (.ldc2_w 52, 3) := by decide +kernel
theorem own_d40_34 : decode method_3_code 34 = .ok (.lcmp, 1) := by decide +kernel
theorem own_d40_35 : decode method_3_code 35 = .ok (.ifCond .ge 5, 3) := by decide +kernel
theorem own_d40_38 : decode method_3_code 38 = .ok (.iconst 4, 1) := by decide +kernel
theorem own_d40_39 : decode method_3_code 39 = .ok (.ireturn, 1) := by decide +kernel
theorem own_d40_40 : decode method_3_code 40 = .ok (.lload_n 0, 1) := by decide +kernel
theorem own_d40_41 : decode method_3_code 41 = .ok (.ldc2_w 54, 3) := by decide +kernel
theorem own_d40_44 : decode method_3_code 44 = .ok (.lcmp, 1) := by decide +kernel
theorem own_d40_45 : decode method_3_code 45 = .ok (.ifCond .ge 5, 3) := by decide +kernel
theorem own_d40_48 : decode method_3_code 48 = .ok (.iconst 5, 1) := by decide +kernel
theorem own_d40_49 : decode method_3_code 49 = .ok (.ireturn, 1) := by decide +kernel
theorem own_d40_50 : decode method_3_code 50 = .ok (.lload_n 0, 1) := by decide +kernel
theorem own_d40_51 : decode method_3_code 51 = .ok (.ldc2_w 56, 3) := by decide +kernel
theorem own_d40_54 : decode method_3_code 54 = .ok (.lcmp, 1) := by decide +kernel
theorem own_d40_55 : decode method_3_code 55 = .ok (.ifCond .ge 6, 3) := by decide +kernel
theorem own_d40_58 : decode method_3_code 58 = .ok (.bipush 6, 2) := by decide +kernel
theorem own_d40_60 : decode method_3_code 60 = .ok (.ireturn, 1) := by decide +kernel
theorem own_d40_61 : decode method_3_code 61 = .ok (.lload_n 0, 1) := by decide +kernel
theorem own_d40_62 : decode method_3_code 62 = .ok (.ldc2_w 58, 3) := by decide +kernel
theorem own_d40_65 : decode method_3_code 65 = .ok (.lcmp, 1) := by decide +kernel
theorem own_d40_66 : decode method_3_code 66 = .ok (.ifCond .ge 6, 3) := by decide +kernel
theorem own_d40_69 : decode method_3_code 69 = .ok (.bipush 7, 2) := by decide +kernel
theorem own_d40_71 : decode method_3_code 71 = .ok (.ireturn, 1) := by decide +kernel
theorem own_d40_72 : decode method_3_code 72 = .ok (.lload_n 0, 1) := by decide +kernel
theorem own_d40_73 : decode method_3_code 73 = .ok (.ldc2_w 60, 3) := by decide +kernel
theorem own_d40_76 : decode method_3_code 76 = .ok (.lcmp, 1) := by decide +kernel
theorem own_d40_77 : decode method_3_code 77 = .ok (.ifCond .ge 6, 3) := by decide +kernel
theorem own_d40_80 : decode method_3_code 80 = .ok (.bipush 8, 2) := by decide +kernel
theorem own_d40_82 : decode method_3_code 82 = .ok (.ireturn, 1) := by decide +kernel
theorem own_d40_83 : decode method_3_code 83 = .ok (.lload_n 0, 1) := by decide +kernel
theorem own_d40_84 : decode method_3_code 84 = .ok (.ldc2_w 62, 3) := by decide +kernel
theorem own_d40_87 : decode method_3_code 87 = .ok (.lcmp, 1) := by decide +kernel
theorem own_d40_88 : decode method_3_code 88 = .ok (.ifCond .ge 6, 3) := by decide +kernel
theorem own_d40_91 : decode method_3_code 91 = .ok (.bipush 9, 2) := by decide +kernel
theorem own_d40_93 : decode method_3_code 93 = .ok (.ireturn, 1) := by decide +kernel
theorem own_d40_94 : decode method_3_code 94 = .ok (.bipush 10, 2) := by decide +kernel
theorem own_d40_96 : decode method_3_code 96 = .ok (.ireturn, 1) := by decide +kernel
theorem own_pn1 : plainName "com/example/durable_cron/durablecron/store/RequestOutcomeAnsweredPinLaw" = true := by first | (simp [plainName, overriddenIn]; done) | decide +kernel
theorem own_d14_0 : decode jdk_29_method_65_code 0 = .ok (.iload_n 0, 1) := by decide +kernel
theorem own_d14_1 : decode jdk_29_method_65_code 1 = .ok (.iload_n 1, 1) := by decide +kernel
theorem own_d14_2 : decode jdk_29_method_65_code 2 = .ok (.if_icmp .lt 7, 3) := by decide +kernel
theorem own_d14_9 : decode jdk_29_method_65_code 9 = .ok (.iload_n 1, 1) := by decide +kernel
theorem own_d14_10 : decode jdk_29_method_65_code 10 = .ok (.ireturn, 1) := by decide +kernel
theorem own_d16_0 : decode jdk_29_method_69_code 0 = .ok (.iload_n 0, 1) := by decide +kernel
theorem own_d16_1 : decode jdk_29_method_69_code 1 = .ok (.iload_n 1, 1) := by decide +kernel
theorem own_d16_2 : decode jdk_29_method_69_code 2 = .ok (.if_icmp .gt 7, 3) := by decide +kernel
theorem own_d16_5 : decode jdk_29_method_69_code 5 = .ok (.iload_n 0, 1) := by decide +kernel
theorem own_d16_6 : decode jdk_29_method_69_code 6 = .ok (.goto 4, 3) := by decide +kernel
theorem own_d16_10 : decode jdk_29_method_69_code 10 = .ok (.ireturn, 1) := by decide +kernel
theorem own_d16_9 : decode jdk_29_method_69_code 9 = .ok (.iload_n 1, 1) := by decide +kernel
theorem own_d13_0 : decode jdk_48_method_27_code 0 = .ok (.iload_n 0, 1) := by decide +kernel
theorem own_d13_1 : decode jdk_48_method_27_code 1 = .ok (.iload_n 1, 1) := by decide +kernel
theorem own_d13_2 : decode jdk_48_method_27_code 2 = .ok (.iload_n 2, 1) := by decide +kernel
theorem own_d13_3 : decode jdk_48_method_27_code 3 = .ok (.invokestatic 194, 3) := by decide +kernel
theorem own_pd0 : parseMethodDescriptor "(II)I" = some ⟨[.int, .int], some .int⟩ := by decide +kernel
theorem own_d13_6 : decode jdk_48_method_27_code 6 = .ok (.iadd, 1) := by decide +kernel
theorem own_d13_7 : decode jdk_48_method_27_code 7 = .ok (.istore_n 3, 1) := by decide +kernel
theorem own_d13_8 : decode jdk_48_method_27_code 8 = .ok (.iconst 0, 1) := by decide +kernel
theorem own_d13_9 : decode jdk_48_method_27_code 9 = .ok (.iload_n 3, 1) := by decide +kernel
theorem own_d13_10 : decode jdk_48_method_27_code 10 = .ok (.if_icmp .ge 11, 3) := by decide +kernel
theorem own_d13_13 : decode jdk_48_method_27_code 13 = .ok (.iload_n 3, 1) := by decide +kernel
theorem own_d13_14 : decode jdk_48_method_27_code 14 = .ok (.ldc 200, 2) := by decide +kernel
theorem own_d13_16 : decode jdk_48_method_27_code 16 = .ok (.if_icmp .gt 5, 3) := by decide +kernel
theorem own_d13_19 : decode jdk_48_method_27_code 19 = .ok (.iload_n 3, 1) := by decide +kernel
theorem own_d13_20 : decode jdk_48_method_27_code 20 = .ok (.ireturn, 1) := by decide +kernel
theorem own_pn2 : plainName "jdk/internal/util/ArraysSupport" = true := by first | (simp [plainName, overriddenIn]; done) | decide +kernel
theorem own_d10_0 : decode jdk_42_method_152_code 0 = .ok (.getstatic 38, 3) := by decide +kernel
theorem own_d10_3 : decode jdk_42_method_152_code 3 = .ok (.ifCond .eq 10, 3) := by decide +kernel
theorem own_d10_6 : decode jdk_42_method_152_code 6 = .ok (.aload_n 0, 1) := by decide +kernel
theorem own_d10_7 : decode jdk_42_method_152_code 7 = .ok (.getfield 15, 3) := by decide +kernel
theorem own_d10_10 : decode jdk_42_method_152_code 10 = .ok (.goto 4, 3) := by decide +kernel
theorem own_d10_14 : decode jdk_42_method_152_code 14 = .ok (.ireturn, 1) := by decide +kernel
theorem own_pn3 : plainName "java/lang/String" = true := by first | (simp [plainName, overriddenIn]; done) | decide +kernel
theorem own_d9_0 : decode jdk_42_method_54_code 0 = .ok (.aload_n 0, 1) := by decide +kernel
theorem own_d9_1 : decode jdk_42_method_54_code 1 = .ok (.getfield 9, 3) := by decide +kernel
theorem own_d9_4 : decode jdk_42_method_54_code 4 = .ok (.arraylength, 1) := by decide +kernel
theorem own_d9_5 : decode jdk_42_method_54_code 5 = .ok (.aload_n 0, 1) := by decide +kernel
theorem own_d9_6 : decode jdk_42_method_54_code 6 = .ok (.invokevirtual 335, 3) := by decide +kernel
theorem own_pd1 : parseMethodDescriptor "()B" = some ⟨[], some .byte⟩ := by decide +kernel
theorem own_d9_9 : decode jdk_42_method_54_code 9 = .ok (.ishr, 1) := by decide +kernel
theorem own_d9_10 : decode jdk_42_method_54_code 10 = .ok (.ireturn, 1) := by decide +kernel
theorem own_d5_0 : decode jdk_68_method_2_code 0 = .ok (.aload_n 0, 1) := by decide +kernel
theorem own_d5_1 : decode jdk_68_method_2_code 1 = .ok (.invokespecial 3, 3) := by decide +kernel
theorem own_d5_4 : decode jdk_68_method_2_code 4 = .ok (.getstatic 18, 3) := by decide +kernel
theorem own_d5_7 : decode jdk_68_method_2_code 7 = .ok (.ifCond .eq 18, 3) := by decide +kernel
theorem own_d5_10 : decode jdk_68_method_2_code 10 = .ok (.aload_n 0, 1) := by decide +kernel
theorem own_d5_11 : decode jdk_68_method_2_code 11 = .ok (.iload_n 1, 1) := by decide +kernel
theorem own_d5_12 : decode jdk_68_method_2_code 12 = .ok (.newarray .byte, 2) := by decide +kernel
theorem own_d5_14 : decode jdk_68_method_2_code 14 = .ok (.putfield 15, 3) := by decide +kernel
theorem own_d5_17 : decode jdk_68_method_2_code 17 = .ok (.aload_n 0, 1) := by decide +kernel
theorem own_d5_18 : decode jdk_68_method_2_code 18 = .ok (.iconst 0, 1) := by decide +kernel
theorem own_d5_19 : decode jdk_68_method_2_code 19 = .ok (.putfield 22, 3) := by decide +kernel
theorem own_d5_22 : decode jdk_68_method_2_code 22 = .ok (.goto 16, 3) := by decide +kernel
theorem own_d5_38 : decode jdk_68_method_2_code 38 = .ok (.return_, 1) := by decide +kernel
theorem own_pn4 : plainName "java/lang/AbstractStringBuilder" = true := by first | (simp [plainName, overriddenIn]; done) | decide +kernel
theorem own_d4_0 : decode jdk_67_method_1_code 0 = .ok (.aload_n 0, 1) := by decide +kernel
theorem own_d4_1 : decode jdk_67_method_1_code 1 = .ok (.bipush 16, 2) := by decide +kernel
theorem own_d4_3 : decode jdk_67_method_1_code 3 = .ok (.invokespecial 1, 3) := by decide +kernel
theorem own_pd2 : parseMethodDescriptor "(I)V" = some ⟨[.int], none⟩ := by decide +kernel
theorem own_d4_6 : decode jdk_67_method_1_code 6 = .ok (.return_, 1) := by decide +kernel
theorem own_pn5 : plainName "java/lang/StringBuilder" = true := by first | (simp [plainName, overriddenIn]; done) | decide +kernel
theorem own_d15_0 : decode jdk_65_method_121_code 0 = .ok (.iload_n 1, 1) := by decide +kernel
theorem own_d15_1 : decode jdk_65_method_121_code 1 = .ok (.aload_n 0, 1) := by decide +kernel
theorem own_d15_2 : decode jdk_65_method_121_code 2 = .ok (.arraylength, 1) := by decide +kernel
theorem own_d15_3 : decode jdk_65_method_121_code 3 = .ok (.if_icmp .ne 11, 3) := by decide +kernel
theorem own_d15_14 : decode jdk_65_method_121_code 14 = .ok (.iload_n 1, 1) := by decide +kernel
theorem own_d15_15 : decode jdk_65_method_121_code 15 = .ok (.newarray .byte, 2) := by decide +kernel
theorem own_d15_17 : decode jdk_65_method_121_code 17 = .ok (.astore_n 2, 1) := by decide +kernel
theorem own_d15_18 : decode jdk_65_method_121_code 18 = .ok (.aload_n 0, 1) := by decide +kernel
theorem own_d15_19 : decode jdk_65_method_121_code 19 = .ok (.iconst 0, 1) := by decide +kernel
theorem own_d15_20 : decode jdk_65_method_121_code 20 = .ok (.aload_n 2, 1) := by decide +kernel
theorem own_d15_21 : decode jdk_65_method_121_code 21 = .ok (.iconst 0, 1) := by decide +kernel
theorem own_d15_22 : decode jdk_65_method_121_code 22 = .ok (.aload_n 0, 1) := by decide +kernel
theorem own_d15_23 : decode jdk_65_method_121_code 23 = .ok (.arraylength, 1) := by decide +kernel
theorem own_d15_24 : decode jdk_65_method_121_code 24 = .ok (.iload_n 1, 1) := by decide +kernel
theorem own_d15_25 : decode jdk_65_method_121_code 25 = .ok (.invokestatic 304, 3) := by decide +kernel
theorem own_d15_28 : decode jdk_65_method_121_code 28 = .ok (.invokestatic 150, 3) := by decide +kernel
theorem own_d15_31 : decode jdk_65_method_121_code 31 = .ok (.aload_n 2, 1) := by decide +kernel
theorem own_d15_32 : decode jdk_65_method_121_code 32 = .ok (.areturn, 1) := by decide +kernel
theorem own_pn6 : plainName "java/util/Arrays" = true := by first | (simp [plainName, overriddenIn]; done) | decide +kernel
theorem own_d12_0 : decode jdk_68_method_10_code 0 = .ok (.aload_n 0, 1) := by decide +kernel
theorem own_d12_1 : decode jdk_68_method_10_code 1 = .ok (.getfield 15, 3) := by decide +kernel
theorem own_d12_4 : decode jdk_68_method_10_code 4 = .ok (.arraylength, 1) := by decide +kernel
theorem own_d12_5 : decode jdk_68_method_10_code 5 = .ok (.istore_n 2, 1) := by decide +kernel
theorem own_d12_6 : decode jdk_68_method_10_code 6 = .ok (.iload_n 1, 1) := by decide +kernel
theorem own_d12_7 : decode jdk_68_method_10_code 7 = .ok (.aload_n 0, 1) := by decide +kernel
theorem own_d12_8 : decode jdk_68_method_10_code 8 = .ok (.getfield 22, 3) := by decide +kernel
theorem own_d12_11 : decode jdk_68_method_10_code 11 = .ok (.ishl, 1) := by decide +kernel
theorem own_d12_12 : decode jdk_68_method_10_code 12 = .ok (.istore_n 3, 1) := by decide +kernel
theorem own_d12_13 : decode jdk_68_method_10_code 13 = .ok (.iload_n 3, 1) := by decide +kernel
theorem own_d12_14 : decode jdk_68_method_10_code 14 = .ok (.iload_n 2, 1) := by decide +kernel
theorem own_d12_15 : decode jdk_68_method_10_code 15 = .ok (.isub, 1) := by decide +kernel
theorem own_d12_16 : decode jdk_68_method_10_code 16 = .ok (.istore 4, 2) := by decide +kernel
theorem own_d12_18 : decode jdk_68_method_10_code 18 = .ok (.iload_n 2, 1) := by decide +kernel
theorem own_d12_19 : decode jdk_68_method_10_code 19 = .ok (.iload 4, 2) := by decide +kernel
theorem own_d12_21 : decode jdk_68_method_10_code 21 = .ok (.iload_n 2, 1) := by decide +kernel
theorem own_d12_22 : decode jdk_68_method_10_code 22 = .ok (.iconst 2, 1) := by decide +kernel
theorem own_d12_23 : decode jdk_68_method_10_code 23 = .ok (.aload_n 0, 1) := by decide +kernel
theorem own_d12_24 : decode jdk_68_method_10_code 24 = .ok (.getfield 22, 3) := by decide +kernel
theorem own_d12_27 : decode jdk_68_method_10_code 27 = .ok (.ishl, 1) := by decide +kernel
theorem own_d12_28 : decode jdk_68_method_10_code 28 = .ok (.iadd, 1) := by decide +kernel
theorem own_d12_29 : decode jdk_68_method_10_code 29 = .ok (.invokestatic 114, 3) := by decide +kernel
theorem own_pd3 : parseMethodDescriptor "(III)I" = some ⟨[.int, .int, .int], some .int⟩ := by decide +kernel
theorem own_d12_32 : decode jdk_68_method_10_code 32 = .ok (.istore 5, 2) := by decide +kernel
theorem own_d12_34 : decode jdk_68_method_10_code 34 = .ok (.iload 5, 2) := by decide +kernel
theorem own_d12_36 : decode jdk_68_method_10_code 36 = .ok (.ldc 39, 2) := by decide +kernel
theorem own_d12_38 : decode jdk_68_method_10_code 38 = .ok (.if_icmp .ne 13, 3) := by decide +kernel
theorem own_d12_51 : decode jdk_68_method_10_code 51 = .ok (.iload 5, 2) := by decide +kernel
theorem own_d12_53 : decode jdk_68_method_10_code 53 = .ok (.aload_n 0, 1) := by decide +kernel
theorem own_d12_54 : decode jdk_68_method_10_code 54 = .ok (.getfield 22, 3) := by decide +kernel
theorem own_d12_57 : decode jdk_68_method_10_code 57 = .ok (.ishr, 1) := by decide +kernel
theorem own_d12_58 : decode jdk_68_method_10_code 58 = .ok (.ireturn, 1) := by decide +kernel
theorem own_d11_0 : decode jdk_68_method_9_code 0 = .ok (.aload_n 0, 1) := by decide +kernel
theorem own_d11_1 : decode jdk_68_method_9_code 1 = .ok (.getfield 15, 3) := by decide +kernel
theorem own_d11_4 : decode jdk_68_method_9_code 4 = .ok (.arraylength, 1) := by decide +kernel
theorem own_d11_5 : decode jdk_68_method_9_code 5 = .ok (.aload_n 0, 1) := by decide +kernel
theorem own_d11_6 : decode jdk_68_method_9_code 6 = .ok (.getfield 22, 3) := by decide +kernel
theorem own_d11_9 : decode jdk_68_method_9_code 9 = .ok (.ishr, 1) := by decide +kernel
theorem own_d11_10 : decode jdk_68_method_9_code 10 = .ok (.istore_n 2, 1) := by decide +kernel
theorem own_d11_11 : decode jdk_68_method_9_code 11 = .ok (.iload_n 1, 1) := by decide +kernel
theorem own_d11_12 : decode jdk_68_method_9_code 12 = .ok (.iload_n 2, 1) := by decide +kernel
theorem own_d11_13 : decode jdk_68_method_9_code 13 = .ok (.isub, 1) := by decide +kernel
theorem own_d11_14 : decode jdk_68_method_9_code 14 = .ok (.ifCond .le 24, 3) := by decide +kernel
theorem own_d11_17 : decode jdk_68_method_9_code 17 = .ok (.aload_n 0, 1) := by decide +kernel
theorem own_d11_18 : decode jdk_68_method_9_code 18 = .ok (.aload_n 0, 1) := by decide +kernel
theorem own_d11_19 : decode jdk_68_method_9_code 19 = .ok (.getfield 15, 3) := by decide +kernel
theorem own_d11_22 : decode jdk_68_method_9_code 22 = .ok (.aload_n 0, 1) := by decide +kernel
theorem own_d11_23 : decode jdk_68_method_9_code 23 = .ok (.iload_n 1, 1) := by decide +kernel
theorem own_d11_24 : decode jdk_68_method_9_code 24 = .ok (.invokevirtual 104, 3) := by decide +kernel
theorem own_pd4 : parseMethodDescriptor "(I)I" = some ⟨[.int], some .int⟩ := by decide +kernel
theorem own_d11_27 : decode jdk_68_method_9_code 27 = .ok (.aload_n 0, 1) := by decide +kernel
theorem own_d11_28 : decode jdk_68_method_9_code 28 = .ok (.getfield 22, 3) := by decide +kernel
theorem own_d11_31 : decode jdk_68_method_9_code 31 = .ok (.ishl, 1) := by decide +kernel
theorem own_d11_32 : decode jdk_68_method_9_code 32 = .ok (.invokestatic 108, 3) := by decide +kernel
theorem own_pd5 : parseMethodDescriptor "([BI)[B" = some ⟨[(.array .byte), .int], some (.array .byte)⟩ := by decide +kernel
theorem own_d11_35 : decode jdk_68_method_9_code 35 = .ok (.putfield 15, 3) := by decide +kernel
theorem own_d11_38 : decode jdk_68_method_9_code 38 = .ok (.return_, 1) := by decide +kernel
theorem own_d18_0 : decode jdk_68_method_71_code 0 = .ok (.getstatic 18, 3) := by decide +kernel
theorem own_d18_3 : decode jdk_68_method_71_code 3 = .ok (.ifCond .eq 18, 3) := by decide +kernel
theorem own_d18_6 : decode jdk_68_method_71_code 6 = .ok (.aload_n 0, 1) := by decide +kernel
theorem own_d18_7 : decode jdk_68_method_71_code 7 = .ok (.getfield 22, 3) := by decide +kernel
theorem own_d18_10 : decode jdk_68_method_71_code 10 = .ok (.aload_n 1, 1) := by decide +kernel
theorem own_d18_11 : decode jdk_68_method_71_code 11 = .ok (.invokevirtual 40, 3) := by decide +kernel
theorem own_d18_14 : decode jdk_68_method_71_code 14 = .ok (.if_icmp .eq 7, 3) := by decide +kernel
theorem own_d18_21 : decode jdk_68_method_71_code 21 = .ok (.return_, 1) := by decide +kernel
theorem own_d19_0 : decode jdk_42_method_147_code 0 = .ok (.aload_n 0, 1) := by decide +kernel
theorem own_d19_1 : decode jdk_42_method_147_code 1 = .ok (.invokevirtual 335, 3) := by decide +kernel
theorem own_d19_4 : decode jdk_42_method_147_code 4 = .ok (.iload_n 3, 1) := by decide +kernel
theorem own_d19_5 : decode jdk_42_method_147_code 5 = .ok (.if_icmp .ne 23, 3) := by decide +kernel
theorem own_d19_8 : decode jdk_42_method_147_code 8 = .ok (.aload_n 0, 1) := by decide +kernel
theorem own_d19_9 : decode jdk_42_method_147_code 9 = .ok (.getfield 9, 3) := by decide +kernel
theorem own_d19_12 : decode jdk_42_method_147_code 12 = .ok (.iconst 0, 1) := by decide +kernel
theorem own_d19_13 : decode jdk_42_method_147_code 13 = .ok (.aload_n 1, 1) := by decide +kernel
theorem own_d19_14 : decode jdk_42_method_147_code 14 = .ok (.iload_n 2, 1) := by decide +kernel
theorem own_d19_15 : decode jdk_42_method_147_code 15 = .ok (.iload_n 3, 1) := by decide +kernel
theorem own_d19_16 : decode jdk_42_method_147_code 16 = .ok (.ishl, 1) := by decide +kernel
theorem own_d19_17 : decode jdk_42_method_147_code 17 = .ok (.aload_n 0, 1) := by decide +kernel
theorem own_d19_18 : decode jdk_42_method_147_code 18 = .ok (.getfield 9, 3) := by decide +kernel
theorem own_d19_21 : decode jdk_42_method_147_code 21 = .ok (.arraylength, 1) := by decide +kernel
theorem own_d19_22 : decode jdk_42_method_147_code 22 = .ok (.invokestatic 212, 3) := by decide +kernel
theorem own_d19_25 : decode jdk_42_method_147_code 25 = .ok (.goto 18, 3) := by decide +kernel
theorem own_d19_43 : decode jdk_42_method_147_code 43 = .ok (.return_, 1) := by decide +kernel
theorem own_d17_0 : decode jdk_68_method_73_code 0 = .ok (.aload_n 0, 1) := by decide +kernel
theorem own_d17_1 : decode jdk_68_method_73_code 1 = .ok (.aload_n 2, 1) := by decide +kernel
theorem own_d17_2 : decode jdk_68_method_73_code 2 = .ok (.invokevirtual 397, 3) := by decide +kernel
theorem own_pd6 : parseMethodDescriptor "(Ljava/lang/String;)V" = some ⟨[(.object "java/lang/String")], none⟩ := by decide +kernel
theorem own_d17_5 : decode jdk_68_method_73_code 5 = .ok (.aload_n 2, 1) := by decide +kernel
theorem own_d17_6 : decode jdk_68_method_73_code 6 = .ok (.aload_n 0, 1) := by decide +kernel
theorem own_d17_7 : decode jdk_68_method_73_code 7 = .ok (.getfield 15, 3) := by decide +kernel
theorem own_d17_10 : decode jdk_68_method_73_code 10 = .ok (.iload_n 1, 1) := by decide +kernel
theorem own_d17_11 : decode jdk_68_method_73_code 11 = .ok (.aload_n 0, 1) := by decide +kernel
theorem own_d17_12 : decode jdk_68_method_73_code 12 = .ok (.getfield 22, 3) := by decide +kernel
theorem own_d17_15 : decode jdk_68_method_73_code 15 = .ok (.invokevirtual 399, 3) := by decide +kernel
theorem own_pd7 : parseMethodDescriptor "([BIB)V" = some ⟨[(.array .byte), .int, .byte], none⟩ := by decide +kernel
theorem own_d17_18 : decode jdk_68_method_73_code 18 = .ok (.return_, 1) := by decide +kernel
theorem own_d8_0 : decode jdk_68_method_22_code 0 = .ok (.aload_n 1, 1) := by decide +kernel
theorem own_d8_1 : decode jdk_68_method_22_code 1 = .ok (.ifnonnull 8, 3) := by decide +kernel
theorem own_d8_9 : decode jdk_68_method_22_code 9 = .ok (.aload_n 1, 1) := by decide +kernel
theorem own_d8_10 : decode jdk_68_method_22_code 10 = .ok (.invokevirtual 32, 3) := by decide +kernel
theorem own_pd8 : parseMethodDescriptor "()I" = some ⟨[], some .int⟩ := by decide +kernel
theorem own_d8_13 : decode jdk_68_method_22_code 13 = .ok (.istore_n 2, 1) := by decide +kernel
theorem own_d8_14 : decode jdk_68_method_22_code 14 = .ok (.aload_n 0, 1) := by decide +kernel
theorem own_d8_15 : decode jdk_68_method_22_code 15 = .ok (.aload_n 0, 1) := by decide +kernel
theorem own_d8_16 : decode jdk_68_method_22_code 16 = .ok (.getfield 79, 3) := by decide +kernel
theorem own_d8_19 : decode jdk_68_method_22_code 19 = .ok (.iload_n 2, 1) := by decide +kernel
theorem own_d8_20 : decode jdk_68_method_22_code 20 = .ok (.iadd, 1) := by decide +kernel
theorem own_d8_21 : decode jdk_68_method_22_code 21 = .ok (.invokevirtual 100, 3) := by decide +kernel
theorem own_d8_24 : decode jdk_68_method_22_code 24 = .ok (.aload_n 0, 1) := by decide +kernel
theorem own_d8_25 : decode jdk_68_method_22_code 25 = .ok (.aload_n 0, 1) := by decide +kernel
theorem own_d8_26 : decode jdk_68_method_22_code 26 = .ok (.getfield 79, 3) := by decide +kernel
theorem own_d8_29 : decode jdk_68_method_22_code 29 = .ok (.aload_n 1, 1) := by decide +kernel
theorem own_d8_30 : decode jdk_68_method_22_code 30 = .ok (.invokevirtual 208, 3) := by decide +kernel
theorem own_pd9 : parseMethodDescriptor "(ILjava/lang/String;)V" = some ⟨[.int, (.object "java/lang/String")], none⟩ := by decide +kernel
theorem own_d8_33 : decode jdk_68_method_22_code 33 = .ok (.aload_n 0, 1) := by decide +kernel
theorem own_d8_34 : decode jdk_68_method_22_code 34 = .ok (.dup, 1) := by decide +kernel
theorem own_d8_35 : decode jdk_68_method_22_code 35 = .ok (.getfield 79, 3) := by decide +kernel
theorem own_d8_38 : decode jdk_68_method_22_code 38 = .ok (.iload_n 2, 1) := by decide +kernel
theorem own_d8_39 : decode jdk_68_method_22_code 39 = .ok (.iadd, 1) := by decide +kernel
theorem own_d8_40 : decode jdk_68_method_22_code 40 = .ok (.putfield 79, 3) := by decide +kernel
theorem own_d8_43 : decode jdk_68_method_22_code 43 = .ok (.aload_n 0, 1) := by decide +kernel
theorem own_d8_44 : decode jdk_68_method_22_code 44 = .ok (.areturn, 1) := by decide +kernel
theorem own_d7_0 : decode jdk_67_method_7_code 0 = .ok (.aload_n 0, 1) := by decide +kernel
theorem own_d7_1 : decode jdk_67_method_7_code 1 = .ok (.aload_n 1, 1) := by decide +kernel
theorem own_d7_2 : decode jdk_67_method_7_code 2 = .ok (.invokespecial 29, 3) := by decide +kernel
theorem own_pd10 : parseMethodDescriptor "(Ljava/lang/String;)Ljava/lang/AbstractStringBuilder;" = some ⟨[(.object "java/lang/String")], some (.object "java/lang/AbstractStringBuilder")⟩ := by decide +kernel
theorem own_d7_5 : decode jdk_67_method_7_code 5 = .ok (.pop, 1) := by decide +kernel
theorem own_d7_6 : decode jdk_67_method_7_code 6 = .ok (.aload_n 0, 1) := by decide +kernel
theorem own_d7_7 : decode jdk_67_method_7_code 7 = .ok (.areturn, 1) := by decide +kernel
theorem own_d23_0 : decode jdk_68_method_68_code 0 = .ok (.getstatic 18, 3) := by decide +kernel
theorem own_d23_3 : decode jdk_68_method_68_code 3 = .ok (.ifCond .eq 14, 3) := by decide +kernel
theorem own_d23_6 : decode jdk_68_method_68_code 6 = .ok (.aload_n 0, 1) := by decide +kernel
theorem own_d23_7 : decode jdk_68_method_68_code 7 = .ok (.getfield 22, 3) := by decide +kernel
theorem own_d23_10 : decode jdk_68_method_68_code 10 = .ok (.ifCond .ne 7, 3) := by decide +kernel
theorem own_d23_13 : decode jdk_68_method_68_code 13 = .ok (.iconst 1, 1) := by decide +kernel
theorem own_d23_14 : decode jdk_68_method_68_code 14 = .ok (.goto 4, 3) := by decide +kernel
theorem own_d23_18 : decode jdk_68_method_68_code 18 = .ok (.ireturn, 1) := by decide +kernel
theorem own_d28_0 : decode jdk_68_method_64_code 0 = .ok (.aload_n 0, 1) := by decide +kernel
theorem own_d28_1 : decode jdk_68_method_64_code 1 = .ok (.getfield 15, 3) := by decide +kernel
theorem own_d28_4 : decode jdk_68_method_64_code 4 = .ok (.areturn, 1) := by decide +kernel
theorem own_d30_0 : decode jdk_68_method_6_code 0 = .ok (.aload_n 0, 1) := by decide +kernel
theorem own_d30_1 : decode jdk_68_method_6_code 1 = .ok (.getfield 79, 3) := by decide +kernel
theorem own_d30_4 : decode jdk_68_method_6_code 4 = .ok (.ireturn, 1) := by decide +kernel
theorem own_d29_0 : decode jdk_67_method_93_code 0 = .ok (.aload_n 0, 1) := by decide +kernel
theorem own_d29_1 : decode jdk_67_method_93_code 1 = .ok (.invokespecial 343, 3) := by decide +kernel
theorem own_d29_4 : decode jdk_67_method_93_code 4 = .ok (.ireturn, 1) := by decide +kernel
theorem own_d21_0 : decode jdk_68_method_32_code 0 = .ok (.aload_n 0, 1) := by decide +kernel
theorem own_d21_1 : decode jdk_68_method_32_code 1 = .ok (.getfield 79, 3) := by decide +kernel
theorem own_d21_4 : decode jdk_68_method_32_code 4 = .ok (.istore_n 2, 1) := by decide +kernel
theorem own_d21_5 : decode jdk_68_method_32_code 5 = .ok (.iload_n 2, 1) := by decide +kernel
theorem own_d21_6 : decode jdk_68_method_32_code 6 = .ok (.iload_n 1, 1) := by decide +kernel
theorem own_d21_7 : decode jdk_68_method_32_code 7 = .ok (.invokestatic 245, 3) := by decide +kernel
theorem own_d21_10 : decode jdk_68_method_32_code 10 = .ok (.iadd, 1) := by decide +kernel
theorem own_d21_11 : decode jdk_68_method_32_code 11 = .ok (.istore_n 3, 1) := by decide +kernel
theorem own_d21_12 : decode jdk_68_method_32_code 12 = .ok (.aload_n 0, 1) := by decide +kernel
theorem own_d21_13 : decode jdk_68_method_32_code 13 = .ok (.iload_n 3, 1) := by decide +kernel
theorem own_d21_14 : decode jdk_68_method_32_code 14 = .ok (.invokevirtual 100, 3) := by decide +kernel
theorem own_d21_17 : decode jdk_68_method_32_code 17 = .ok (.aload_n 0, 1) := by decide +kernel
theorem own_d21_18 : decode jdk_68_method_32_code 18 = .ok (.invokevirtual 83, 3) := by decide +kernel
theorem own_pd11 : parseMethodDescriptor "()Z" = some ⟨[], some .boolean⟩ := by decide +kernel
theorem own_d21_21 : decode jdk_68_method_32_code 21 = .ok (.ifCond .eq 16, 3) := by decide +kernel
theorem own_d21_24 : decode jdk_68_method_32_code 24 = .ok (.iload_n 1, 1) := by decide +kernel
theorem own_d21_25 : decode jdk_68_method_32_code 25 = .ok (.iload_n 3, 1) := by decide +kernel
theorem own_d21_26 : decode jdk_68_method_32_code 26 = .ok (.aload_n 0, 1) := by decide +kernel
theorem own_d21_27 : decode jdk_68_method_32_code 27 = .ok (.getfield 15, 3) := by decide +kernel
theorem own_d21_30 : decode jdk_68_method_32_code 30 = .ok (.invokestatic 248, 3) := by decide +kernel
theorem own_pd12 : parseMethodDescriptor "(II[B)I" = some ⟨[.int, .int, (.array .byte)], some .int⟩ := by decide +kernel
theorem own_d21_33 : decode jdk_68_method_32_code 33 = .ok (.pop, 1) := by decide +kernel
theorem own_d21_34 : decode jdk_68_method_32_code 34 = .ok (.goto 14, 3) := by decide +kernel
theorem own_d21_48 : decode jdk_68_method_32_code 48 = .ok (.aload_n 0, 1) := by decide +kernel
theorem own_d21_49 : decode jdk_68_method_32_code 49 = .ok (.iload_n 3, 1) := by decide +kernel
theorem own_d21_50 : decode jdk_68_method_32_code 50 = .ok (.putfield 79, 3) := by decide +kernel
theorem own_d21_53 : decode jdk_68_method_32_code 53 = .ok (.aload_n 0, 1) := by decide +kernel
theorem own_d21_54 : decode jdk_68_method_32_code 54 = .ok (.areturn, 1) := by decide +kernel
theorem own_d20_0 : decode jdk_67_method_15_code 0 = .ok (.aload_n 0, 1) := by decide +kernel
theorem own_d20_1 : decode jdk_67_method_15_code 1 = .ok (.iload_n 1, 1) := by decide +kernel
theorem own_d20_2 : decode jdk_67_method_15_code 2 = .ok (.invokespecial 53, 3) := by decide +kernel
theorem own_pd13 : parseMethodDescriptor "(I)Ljava/lang/AbstractStringBuilder;" = some ⟨[.int], some (.object "java/lang/AbstractStringBuilder")⟩ := by decide +kernel
theorem own_d20_5 : decode jdk_67_method_15_code 5 = .ok (.pop, 1) := by decide +kernel
theorem own_d20_6 : decode jdk_67_method_15_code 6 = .ok (.aload_n 0, 1) := by decide +kernel
theorem own_d20_7 : decode jdk_67_method_15_code 7 = .ok (.areturn, 1) := by decide +kernel
theorem own_d33_0 : decode jdk_65_method_131_code 0 = .ok (.iload_n 1, 1) := by decide +kernel
theorem own_d33_1 : decode jdk_65_method_131_code 1 = .ok (.iload_n 0, 1) := by decide +kernel
theorem own_d33_2 : decode jdk_65_method_131_code 2 = .ok (.if_icmp .ge 35, 3) := by decide +kernel
theorem own_d33_37 : decode jdk_65_method_131_code 37 = .ok (.return_, 1) := by decide +kernel
theorem own_d32_0 : decode jdk_65_method_133_code 0 = .ok (.iload_n 1, 1) := by decide +kernel
theorem own_d32_1 : decode jdk_65_method_133_code 1 = .ok (.iload_n 2, 1) := by decide +kernel
theorem own_d32_2 : decode jdk_65_method_133_code 2 = .ok (.invokestatic 343, 3) := by decide +kernel
theorem own_pd14 : parseMethodDescriptor "(II)V" = some ⟨[.int, .int], none⟩ := by decide +kernel
theorem own_d32_5 : decode jdk_65_method_133_code 5 = .ok (.iload_n 2, 1) := by decide +kernel
theorem own_d32_6 : decode jdk_65_method_133_code 6 = .ok (.iload_n 1, 1) := by decide +kernel
theorem own_d32_7 : decode jdk_65_method_133_code 7 = .ok (.isub, 1) := by decide +kernel
theorem own_d32_8 : decode jdk_65_method_133_code 8 = .ok (.istore_n 3, 1) := by decide +kernel
theorem own_d32_9 : decode jdk_65_method_133_code 9 = .ok (.iload_n 3, 1) := by decide +kernel
theorem own_d32_10 : decode jdk_65_method_133_code 10 = .ok (.newarray .byte, 2) := by decide +kernel
theorem own_d32_12 : decode jdk_65_method_133_code 12 = .ok (.astore 4, 2) := by decide +kernel
theorem own_d32_14 : decode jdk_65_method_133_code 14 = .ok (.aload_n 0, 1) := by decide +kernel
theorem own_d32_15 : decode jdk_65_method_133_code 15 = .ok (.iload_n 1, 1) := by decide +kernel
theorem own_d32_16 : decode jdk_65_method_133_code 16 = .ok (.aload 4, 2) := by decide +kernel
theorem own_d32_18 : decode jdk_65_method_133_code 18 = .ok (.iconst 0, 1) := by decide +kernel
theorem own_d32_19 : decode jdk_65_method_133_code 19 = .ok (.aload_n 0, 1) := by decide +kernel
theorem own_d32_20 : decode jdk_65_method_133_code 20 = .ok (.arraylength, 1) := by decide +kernel
theorem own_d32_21 : decode jdk_65_method_133_code 21 = .ok (.iload_n 1, 1) := by decide +kernel
theorem own_d32_22 : decode jdk_65_method_133_code 22 = .ok (.isub, 1) := by decide +kernel
theorem own_d32_23 : decode jdk_65_method_133_code 23 = .ok (.iload_n 3, 1) := by decide +kernel
theorem own_d32_24 : decode jdk_65_method_133_code 24 = .ok (.invokestatic 304, 3) := by decide +kernel
theorem own_d32_27 : decode jdk_65_method_133_code 27 = .ok (.invokestatic 150, 3) := by decide +kernel
theorem own_d32_30 : decode jdk_65_method_133_code 30 = .ok (.aload 4, 2) := by decide +kernel
theorem own_d32_32 : decode jdk_65_method_133_code 32 = .ok (.areturn, 1) := by decide +kernel
theorem own_d31_0 : decode jdk_65_method_132_code 0 = .ok (.iload_n 1, 1) := by decide +kernel
theorem own_d31_1 : decode jdk_65_method_132_code 1 = .ok (.ifCond .ne 9, 3) := by decide +kernel
theorem own_d31_4 : decode jdk_65_method_132_code 4 = .ok (.iload_n 2, 1) := by decide +kernel
theorem own_d31_5 : decode jdk_65_method_132_code 5 = .ok (.aload_n 0, 1) := by decide +kernel
theorem own_d31_6 : decode jdk_65_method_132_code 6 = .ok (.arraylength, 1) := by decide +kernel
theorem own_d31_7 : decode jdk_65_method_132_code 7 = .ok (.if_icmp .eq 10, 3) := by decide +kernel
theorem own_d31_10 : decode jdk_65_method_132_code 10 = .ok (.aload_n 0, 1) := by decide +kernel
theorem own_d31_11 : decode jdk_65_method_132_code 11 = .ok (.iload_n 1, 1) := by decide +kernel
theorem own_d31_12 : decode jdk_65_method_132_code 12 = .ok (.iload_n 2, 1) := by decide +kernel
theorem own_d31_13 : decode jdk_65_method_132_code 13 = .ok (.invokestatic 339, 3) := by decide +kernel
theorem own_pd15 : parseMethodDescriptor "([BII)[B" = some ⟨[(.array .byte), .int, .int], some (.array .byte)⟩ := by decide +kernel
theorem own_d31_16 : decode jdk_65_method_132_code 16 = .ok (.areturn, 1) := by decide +kernel
theorem own_d27_0 : decode jdk_42_method_150_code 0 = .ok (.aload_n 0, 1) := by decide +kernel
theorem own_d27_1 : decode jdk_42_method_150_code 1 = .ok (.invokespecial 1, 3) := by decide +kernel
theorem own_d27_4 : decode jdk_42_method_150_code 4 = .ok (.aload_n 1, 1) := by decide +kernel
theorem own_d27_5 : decode jdk_42_method_150_code 5 = .ok (.invokevirtual 552, 3) := by decide +kernel
theorem own_pd16 : parseMethodDescriptor "()[B" = some ⟨[], some (.array .byte)⟩ := by decide +kernel
theorem own_d27_8 : decode jdk_42_method_150_code 8 = .ok (.astore_n 3, 1) := by decide +kernel
theorem own_d27_9 : decode jdk_42_method_150_code 9 = .ok (.aload_n 1, 1) := by decide +kernel
theorem own_d27_10 : decode jdk_42_method_150_code 10 = .ok (.invokevirtual 549, 3) := by decide +kernel
theorem own_d27_13 : decode jdk_42_method_150_code 13 = .ok (.istore 4, 2) := by decide +kernel
theorem own_d27_15 : decode jdk_42_method_150_code 15 = .ok (.aload_n 1, 1) := by decide +kernel
theorem own_d27_16 : decode jdk_42_method_150_code 16 = .ok (.invokevirtual 1047, 3) := by decide +kernel
theorem own_d27_19 : decode jdk_42_method_150_code 19 = .ok (.ifCond .eq 22, 3) := by decide +kernel
theorem own_d27_22 : decode jdk_42_method_150_code 22 = .ok (.aload_n 0, 1) := by decide +kernel
theorem own_d27_23 : decode jdk_42_method_150_code 23 = .ok (.iconst 0, 1) := by decide +kernel
theorem own_d27_24 : decode jdk_42_method_150_code 24 = .ok (.putfield 15, 3) := by decide +kernel
theorem own_d27_27 : decode jdk_42_method_150_code 27 = .ok (.aload_n 0, 1) := by decide +kernel
theorem own_d27_28 : decode jdk_42_method_150_code 28 = .ok (.aload_n 3, 1) := by decide +kernel
theorem own_d27_29 : decode jdk_42_method_150_code 29 = .ok (.iconst 0, 1) := by decide +kernel
theorem own_d27_30 : decode jdk_42_method_150_code 30 = .ok (.iload 4, 2) := by decide +kernel
theorem own_d27_32 : decode jdk_42_method_150_code 32 = .ok (.invokestatic 54, 3) := by decide +kernel
theorem own_d27_35 : decode jdk_42_method_150_code 35 = .ok (.putfield 9, 3) := by decide +kernel
theorem own_d27_38 : decode jdk_42_method_150_code 38 = .ok (.goto 59, 3) := by decide +kernel
theorem own_d27_97 : decode jdk_42_method_150_code 97 = .ok (.return_, 1) := by decide +kernel
theorem own_d26_0 : decode jdk_42_method_53_code 0 = .ok (.aload_n 0, 1) := by decide +kernel
theorem own_d26_1 : decode jdk_42_method_53_code 1 = .ok (.aload_n 1, 1) := by decide +kernel
theorem own_d26_2 : decode jdk_42_method_53_code 2 = .ok (.aconst_null, 1) := by decide +kernel
theorem own_d26_3 : decode jdk_42_method_53_code 3 = .ok (.invokespecial 489, 3) := by decide +kernel
theorem own_pd17 : parseMethodDescriptor "(Ljava/lang/AbstractStringBuilder;Ljava/lang/Void;)V" = some ⟨[(.object "java/lang/AbstractStringBuilder"), (.object "java/lang/Void")], none⟩ := by decide +kernel
theorem own_d26_6 : decode jdk_42_method_53_code 6 = .ok (.return_, 1) := by decide +kernel
theorem own_d25_0 : decode jdk_67_method_42_code 0 = .ok (.new 18, 3) := by decide +kernel
theorem own_d25_3 : decode jdk_67_method_42_code 3 = .ok (.dup, 1) := by decide +kernel
theorem own_d25_4 : decode jdk_67_method_42_code 4 = .ok (.aload_n 0, 1) := by decide +kernel
theorem own_d25_5 : decode jdk_67_method_42_code 5 = .ok (.invokespecial 137, 3) := by decide +kernel
theorem own_pd18 : parseMethodDescriptor "(Ljava/lang/StringBuilder;)V" = some ⟨[(.object "java/lang/StringBuilder")], none⟩ := by decide +kernel
theorem own_d25_8 : decode jdk_67_method_42_code 8 = .ok (.areturn, 1) := by decide +kernel
theorem own_d41_0 : decode method_4_code 0 = .ok (.iload 5, 2) := by decide +kernel
theorem own_d41_2 : decode method_4_code 2 = .ok (.iload 4, 2) := by decide +kernel
theorem own_d41_4 : decode method_4_code 4 = .ok (.if_icmp .ge 24, 3) := by decide +kernel
theorem own_d41_7 : decode method_4_code 7 = .ok (.aload_n 0, 1) := by decide +kernel
theorem own_d41_8 : decode method_4_code 8 = .ok (.iload_n 1, 1) := by decide +kernel
theorem own_d41_9 : decode method_4_code 9 = .ok (.iconst 1, 1) := by decide +kernel
theorem own_d41_10 : decode method_4_code 10 = .ok (.isub, 1) := by decide +kernel
theorem own_d41_11 : decode method_4_code 11 = .ok (.iload 5, 2) := by decide +kernel
theorem own_d41_13 : decode method_4_code 13 = .ok (.isub, 1) := by decide +kernel
theorem own_d41_14 : decode method_4_code 14 = .ok (.bipush 48, 2) := by decide +kernel
theorem own_d41_16 : decode method_4_code 16 = .ok (.lload_n 2, 1) := by decide +kernel
theorem own_d41_17 : decode method_4_code 17 = .ok (.lload 6, 2) := by decide +kernel
theorem own_d41_19 : decode method_4_code 19 = .ok (.ldiv, 1) := by decide +kernel
theorem own_d41_20 : decode method_4_code 20 = .ok (.ldc2_w 46, 3) := by decide +kernel
theorem own_d41_23 : decode method_4_code 23 = .ok (.lrem, 1) := by decide +kernel
theorem own_d41_24 : decode method_4_code 24 = .ok (.l2i, 1) := by decide +kernel
theorem own_d41_25 : decode method_4_code 25 = .ok (.iadd, 1) := by decide +kernel
theorem own_d41_26 : decode method_4_code 26 = .ok (.i2c, 1) := by decide +kernel
theorem own_d41_27 : decode method_4_code 27 = .ok (.castore, 1) := by decide +kernel
theorem own_d41_28 : decode method_4_code 28 = .ok (.return_, 1) := by decide +kernel
theorem own_d39_0 : decode method_5_code 0 = .ok (.iload_n 0, 1) := by decide +kernel
theorem own_d39_1 : decode method_5_code 1 = .ok (.ifCond .ge 7, 3) := by decide +kernel
theorem own_d39_4 : decode method_5_code 4 = .ok (.iconst 1, 1) := by decide +kernel
theorem own_d39_5 : decode method_5_code 5 = .ok (.goto 4, 3) := by decide +kernel
theorem own_d39_9 : decode method_5_code 9 = .ok (.istore_n 1, 1) := by decide +kernel
theorem own_d39_10 : decode method_5_code 10 = .ok (.iload_n 1, 1) := by decide +kernel
theorem own_d39_11 : decode method_5_code 11 = .ok (.ifCond .eq 9, 3) := by decide +kernel
theorem own_d39_14 : decode method_5_code 14 = .ok (.iload_n 0, 1) := by decide +kernel
theorem own_d39_15 : decode method_5_code 15 = .ok (.i2l, 1) := by decide +kernel
theorem own_d39_16 : decode method_5_code 16 = .ok (.lneg, 1) := by decide +kernel
theorem own_d39_17 : decode method_5_code 17 = .ok (.goto 5, 3) := by decide +kernel
theorem own_d39_22 : decode method_5_code 22 = .ok (.lstore_n 2, 1) := by decide +kernel
theorem own_d39_23 : decode method_5_code 23 = .ok (.lload_n 2, 1) := by decide +kernel
theorem own_d39_24 : decode method_5_code 24 = .ok (.invokestatic 64, 3) := by decide +kernel
theorem own_pd19 : parseMethodDescriptor "(J)I" = some ⟨[.long], some .int⟩ := by decide +kernel
theorem own_d39_27 : decode method_5_code 27 = .ok (.istore 4, 2) := by decide +kernel
theorem own_d39_29 : decode method_5_code 29 = .ok (.bipush 22, 2) := by decide +kernel
theorem own_d39_31 : decode method_5_code 31 = .ok (.iload_n 1, 1) := by decide +kernel
theorem own_d39_32 : decode method_5_code 32 = .ok (.ifCond .eq 7, 3) := by decide +kernel
theorem own_d39_35 : decode method_5_code 35 = .ok (.iconst 1, 1) := by decide +kernel
theorem own_d39_36 : decode method_5_code 36 = .ok (.goto 4, 3) := by decide +kernel
theorem own_d39_40 : decode method_5_code 40 = .ok (.iadd, 1) := by decide +kernel
theorem own_d39_41 : decode method_5_code 41 = .ok (.iload 4, 2) := by decide +kernel
theorem own_d39_43 : decode method_5_code 43 = .ok (.iadd, 1) := by decide +kernel
theorem own_d39_44 : decode method_5_code 44 = .ok (.istore 5, 2) := by decide +kernel
theorem own_d39_46 : decode method_5_code 46 = .ok (.iload 5, 2) := by decide +kernel
theorem own_d39_48 : decode method_5_code 48 = .ok (.newarray .char, 2) := by decide +kernel
theorem own_d39_50 : decode method_5_code 50 = .ok (.astore 6, 2) := by decide +kernel
theorem own_d39_52 : decode method_5_code 52 = .ok (.aload 6, 2) := by decide +kernel
theorem own_d39_54 : decode method_5_code 54 = .ok (.iconst 0, 1) := by decide +kernel
theorem own_d39_55 : decode method_5_code 55 = .ok (.bipush 116, 2) := by decide +kernel
theorem own_d39_57 : decode method_5_code 57 = .ok (.castore, 1) := by decide +kernel
theorem own_d39_58 : decode method_5_code 58 = .ok (.aload 6, 2) := by decide +kernel
theorem own_d39_60 : decode method_5_code 60 = .ok (.iconst 1, 1) := by decide +kernel
theorem own_d39_61 : decode method_5_code 61 = .ok (.bipush 104, 2) := by decide +kernel
theorem own_d39_63 : decode method_5_code 63 = .ok (.castore, 1) := by decide +kernel
theorem own_d39_64 : decode method_5_code 64 = .ok (.aload 6, 2) := by decide +kernel
theorem own_d39_66 : decode method_5_code 66 = .ok (.iconst 2, 1) := by decide +kernel
theorem own_d39_67 : decode method_5_code 67 = .ok (.bipush 101, 2) := by decide +kernel
theorem own_d39_69 : decode method_5_code 69 = .ok (.castore, 1) := by decide +kernel
theorem own_d39_70 : decode method_5_code 70 = .ok (.aload 6, 2) := by decide +kernel
theorem own_d39_72 : decode method_5_code 72 = .ok (.iconst 3, 1) := by decide +kernel
theorem own_d39_73 : decode method_5_code 73 = .ok (.bipush 32, 2) := by decide +kernel
theorem own_d39_75 : decode method_5_code 75 = .ok (.castore, 1) := by decide +kernel
theorem own_d39_76 : decode method_5_code 76 = .ok (.aload 6, 2) := by decide +kernel
theorem own_d39_78 : decode method_5_code 78 = .ok (.iconst 4, 1) := by decide +kernel
theorem own_d39_79 : decode method_5_code 79 = .ok (.bipush 114, 2) := by decide +kernel
theorem own_d39_81 : decode method_5_code 81 = .ok (.castore, 1) := by decide +kernel
theorem own_d39_82 : decode method_5_code 82 = .ok (.aload 6, 2) := by decide +kernel
theorem own_d39_84 : decode method_5_code 84 = .ok (.iconst 5, 1) := by decide +kernel
theorem own_d39_85 : decode method_5_code 85 = .ok (.bipush 101, 2) := by decide +kernel
theorem own_d39_87 : decode method_5_code 87 = .ok (.castore, 1) := by decide +kernel
theorem own_d39_88 : decode method_5_code 88 = .ok (.aload 6, 2) := by decide +kernel
theorem own_d39_90 : decode method_5_code 90 = .ok (.bipush 6, 2) := by decide +kernel
theorem own_d39_92 : decode method_5_code 92 = .ok (.bipush 99, 2) := by decide +kernel
theorem own_d39_94 : decode method_5_code 94 = .ok (.castore, 1) := by decide +kernel
theorem own_d39_95 : decode method_5_code 95 = .ok (.aload 6, 2) := by decide +kernel
theorem own_d39_97 : decode method_5_code 97 = .ok (.bipush 7, 2) := by decide +kernel
theorem own_d39_99 : decode method_5_code 99 = .ok (.bipush 101, 2) := by decide +kernel
theorem own_d39_101 : decode method_5_code 101 = .ok (.castore, 1) := by decide +kernel
theorem own_d39_102 : decode method_5_code 102 = .ok (.aload 6, 2) := by decide +kernel
theorem own_d39_104 : decode method_5_code 104 = .ok (.bipush 8, 2) := by decide +kernel
theorem own_d39_106 : decode method_5_code 106 = .ok (.bipush 105, 2) := by decide +kernel
theorem own_d39_108 : decode method_5_code 108 = .ok (.castore, 1) := by decide +kernel
theorem own_d39_109 : decode method_5_code 109 = .ok (.aload 6, 2) := by decide +kernel
theorem own_d39_111 : decode method_5_code 111 = .ok (.bipush 9, 2) := by decide +kernel
theorem own_d39_113 : decode method_5_code 113 = .ok (.bipush 118, 2) := by decide +kernel
theorem own_d39_115 : decode method_5_code 115 = .ok (.castore, 1) := by decide +kernel
theorem own_d39_116 : decode method_5_code 116 = .ok (.aload 6, 2) := by decide +kernel
theorem own_d39_118 : decode method_5_code 118 = .ok (.bipush 10, 2) := by decide +kernel
theorem own_d39_120 : decode method_5_code 120 = .ok (.bipush 101, 2) := by decide +kernel
theorem own_d39_122 : decode method_5_code 122 = .ok (.castore, 1) := by decide +kernel
theorem own_d39_123 : decode method_5_code 123 = .ok (.aload 6, 2) := by decide +kernel
theorem own_d39_125 : decode method_5_code 125 = .ok (.bipush 11, 2) := by decide +kernel
theorem own_d39_127 : decode method_5_code 127 = .ok (.bipush 114, 2) := by decide +kernel
theorem own_d39_129 : decode method_5_code 129 = .ok (.castore, 1) := by decide +kernel
theorem own_d39_130 : decode method_5_code 130 = .ok (.aload 6, 2) := by decide +kernel
theorem own_d39_132 : decode method_5_code 132 = .ok (.bipush 12, 2) := by decide +kernel
theorem own_d39_134 : decode method_5_code 134 = .ok (.bipush 32, 2) := by decide +kernel
theorem own_d39_136 : decode method_5_code 136 = .ok (.castore, 1) := by decide +kernel
theorem own_d39_137 : decode method_5_code 137 = .ok (.aload 6, 2) := by decide +kernel
theorem own_d39_139 : decode method_5_code 139 = .ok (.bipush 13, 2) := by decide +kernel
theorem own_d39_141 : decode method_5_code 141 = .ok (.bipush 97, 2) := by decide +kernel
theorem own_d39_143 : decode method_5_code 143 = .ok (.castore, 1) := by decide +kernel
theorem own_d39_144 : decode method_5_code 144 = .ok (.aload 6, 2) := by decide +kernel
theorem own_d39_146 : decode method_5_code 146 = .ok (.bipush 14, 2) := by decide +kernel
theorem own_d39_148 : decode method_5_code 148 = .ok (.bipush 110, 2) := by decide +kernel
theorem own_d39_150 : decode method_5_code 150 = .ok (.castore, 1) := by decide +kernel
theorem own_d39_151 : decode method_5_code 151 = .ok (.aload 6, 2) := by decide +kernel
theorem own_d39_153 : decode method_5_code 153 = .ok (.bipush 15, 2) := by decide +kernel
theorem own_d39_155 : decode method_5_code 155 = .ok (.bipush 115, 2) := by decide +kernel
theorem own_d39_157 : decode method_5_code 157 = .ok (.castore, 1) := by decide +kernel
theorem own_d39_158 : decode method_5_code 158 = .ok (.aload 6, 2) := by decide +kernel
theorem own_d39_160 : decode method_5_code 160 = .ok (.bipush 16, 2) := by decide +kernel
theorem own_d39_162 : decode method_5_code 162 = .ok (.bipush 119, 2) := by decide +kernel
theorem own_d39_164 : decode method_5_code 164 = .ok (.castore, 1) := by decide +kernel
theorem own_d39_165 : decode method_5_code 165 = .ok (.aload 6, 2) := by decide +kernel
theorem own_d39_167 : decode method_5_code 167 = .ok (.bipush 17, 2) := by decide +kernel
theorem own_d39_169 : decode method_5_code 169 = .ok (.bipush 101, 2) := by decide +kernel
theorem own_d39_171 : decode method_5_code 171 = .ok (.castore, 1) := by decide +kernel
theorem own_d39_172 : decode method_5_code 172 = .ok (.aload 6, 2) := by decide +kernel
theorem own_d39_174 : decode method_5_code 174 = .ok (.bipush 18, 2) := by decide +kernel
theorem own_d39_176 : decode method_5_code 176 = .ok (.bipush 114, 2) := by decide +kernel
theorem own_d39_178 : decode method_5_code 178 = .ok (.castore, 1) := by decide +kernel
theorem own_d39_179 : decode method_5_code 179 = .ok (.aload 6, 2) := by decide +kernel
theorem own_d39_181 : decode method_5_code 181 = .ok (.bipush 19, 2) := by decide +kernel
theorem own_d39_183 : decode method_5_code 183 = .ok (.bipush 101, 2) := by decide +kernel
theorem own_d39_185 : decode method_5_code 185 = .ok (.castore, 1) := by decide +kernel
theorem own_d39_186 : decode method_5_code 186 = .ok (.aload 6, 2) := by decide +kernel
theorem own_d39_188 : decode method_5_code 188 = .ok (.bipush 20, 2) := by decide +kernel
theorem own_d39_190 : decode method_5_code 190 = .ok (.bipush 100, 2) := by decide +kernel
theorem own_d39_192 : decode method_5_code 192 = .ok (.castore, 1) := by decide +kernel
theorem own_d39_193 : decode method_5_code 193 = .ok (.aload 6, 2) := by decide +kernel
theorem own_d39_195 : decode method_5_code 195 = .ok (.bipush 21, 2) := by decide +kernel
theorem own_d39_197 : decode method_5_code 197 = .ok (.bipush 32, 2) := by decide +kernel
theorem own_d39_199 : decode method_5_code 199 = .ok (.castore, 1) := by decide +kernel
theorem own_d39_200 : decode method_5_code 200 = .ok (.iload_n 1, 1) := by decide +kernel
theorem own_d39_201 : decode method_5_code 201 = .ok (.ifCond .eq 10, 3) := by decide +kernel
theorem own_d39_204 : decode method_5_code 204 = .ok (.aload 6, 2) := by decide +kernel
theorem own_d39_206 : decode method_5_code 206 = .ok (.bipush 22, 2) := by decide +kernel
theorem own_d39_208 : decode method_5_code 208 = .ok (.bipush 45, 2) := by decide +kernel
theorem own_d39_210 : decode method_5_code 210 = .ok (.castore, 1) := by decide +kernel
theorem own_d39_211 : decode method_5_code 211 = .ok (.aload 6, 2) := by decide +kernel
theorem own_d39_213 : decode method_5_code 213 = .ok (.iload 5, 2) := by decide +kernel
theorem own_d39_215 : decode method_5_code 215 = .ok (.lload_n 2, 1) := by decide +kernel
theorem own_d39_216 : decode method_5_code 216 = .ok (.iload 4, 2) := by decide +kernel
theorem own_d39_218 : decode method_5_code 218 = .ok (.iconst 0, 1) := by decide +kernel
theorem own_d39_219 : decode method_5_code 219 = .ok (.lconst 1, 1) := by decide +kernel
theorem own_d39_220 : decode method_5_code 220 = .ok (.invokestatic 68, 3) := by decide +kernel
theorem own_pd20 : parseMethodDescriptor "([CIJIIJ)V" = some ⟨[(.array .char), .int, .long, .int, .int, .long], none⟩ := by decide +kernel
theorem own_d39_223 : decode method_5_code 223 = .ok (.aload 6, 2) := by decide +kernel
theorem own_d39_225 : decode method_5_code 225 = .ok (.iload 5, 2) := by decide +kernel
theorem own_d39_227 : decode method_5_code 227 = .ok (.lload_n 2, 1) := by decide +kernel
theorem own_d39_228 : decode method_5_code 228 = .ok (.iload 4, 2) := by decide +kernel
theorem own_d39_230 : decode method_5_code 230 = .ok (.iconst 1, 1) := by decide +kernel
theorem own_d39_231 : decode method_5_code 231 = .ok (.ldc2_w 46, 3) := by decide +kernel
theorem own_d39_234 : decode method_5_code 234 = .ok (.invokestatic 68, 3) := by decide +kernel
theorem own_d39_237 : decode method_5_code 237 = .ok (.aload 6, 2) := by decide +kernel
theorem own_d39_239 : decode method_5_code 239 = .ok (.iload 5, 2) := by decide +kernel
theorem own_d39_241 : decode method_5_code 241 = .ok (.lload_n 2, 1) := by decide +kernel
theorem own_d39_242 : decode method_5_code 242 = .ok (.iload 4, 2) := by decide +kernel
theorem own_d39_244 : decode method_5_code 244 = .ok (.iconst 2, 1) := by decide +kernel
theorem own_d39_245 : decode method_5_code 245 = .ok (.ldc2_w 48, 3) := by decide +kernel
theorem own_d39_248 : decode method_5_code 248 = .ok (.invokestatic 68, 3) := by decide +kernel
theorem own_d39_251 : decode method_5_code 251 = .ok (.aload 6, 2) := by decide +kernel
theorem own_d39_253 : decode method_5_code 253 = .ok (.iload 5, 2) := by decide +kernel
theorem own_d39_255 : decode method_5_code 255 = .ok (.lload_n 2, 1) := by decide +kernel
theorem own_d39_256 : decode method_5_code 256 = .ok (.iload 4, 2) := by decide +kernel
theorem own_d39_258 : decode method_5_code 258 = .ok (.iconst 3, 1) := by decide +kernel
theorem own_d39_259 : decode method_5_code 259 = .ok (.ldc2_w 50, 3) := by decide +kernel
theorem own_d39_262 : decode method_5_code 262 = .ok (.invokestatic 68, 3) := by decide +kernel
theorem own_d39_265 : decode method_5_code 265 = .ok (.aload 6, 2) := by decide +kernel
theorem own_d39_267 : decode method_5_code 267 = .ok (.iload 5, 2) := by decide +kernel
theorem own_d39_269 : decode method_5_code 269 = .ok (.lload_n 2, 1) := by decide +kernel
theorem own_d39_270 : decode method_5_code 270 = .ok (.iload 4, 2) := by decide +kernel
theorem own_d39_272 : decode method_5_code 272 = .ok (.iconst 4, 1) := by decide +kernel
theorem own_d39_273 : decode method_5_code 273 = .ok (.ldc2_w 52, 3) := by decide +kernel
theorem own_d39_276 : decode method_5_code 276 = .ok (.invokestatic 68, 3) := by decide +kernel
theorem own_d39_279 : decode method_5_code 279 = .ok (.aload 6, 2) := by decide +kernel
theorem own_d39_281 : decode method_5_code 281 = .ok (.iload 5, 2) := by decide +kernel
theorem own_d39_283 : decode method_5_code 283 = .ok (.lload_n 2, 1) := by decide +kernel
theorem own_d39_284 : decode method_5_code 284 = .ok (.iload 4, 2) := by decide +kernel
theorem own_d39_286 : decode method_5_code 286 = .ok (.iconst 5, 1) := by decide +kernel
theorem own_d39_287 : decode method_5_code 287 = .ok (.ldc2_w 54, 3) := by decide +kernel
theorem own_d39_290 : decode method_5_code 290 = .ok (.invokestatic 68, 3) := by decide +kernel
theorem own_d39_293 : decode method_5_code 293 = .ok (.aload 6, 2) := by decide +kernel
theorem own_d39_295 : decode method_5_code 295 = .ok (.iload 5, 2) := by decide +kernel
theorem own_d39_297 : decode method_5_code 297 = .ok (.lload_n 2, 1) := by decide +kernel
theorem own_d39_298 : decode method_5_code 298 = .ok (.iload 4, 2) := by decide +kernel
theorem own_d39_300 : decode method_5_code 300 = .ok (.bipush 6, 2) := by decide +kernel
theorem own_d39_302 : decode method_5_code 302 = .ok (.ldc2_w 56, 3) := by decide +kernel
theorem own_d39_305 : decode method_5_code 305 = .ok (.invokestatic 68, 3) := by decide +kernel
theorem own_d39_308 : decode method_5_code 308 = .ok (.aload 6, 2) := by decide +kernel
theorem own_d39_310 : decode method_5_code 310 = .ok (.iload 5, 2) := by decide +kernel
theorem own_d39_312 : decode method_5_code 312 = .ok (.lload_n 2, 1) := by decide +kernel
theorem own_d39_313 : decode method_5_code 313 = .ok (.iload 4, 2) := by decide +kernel
theorem own_d39_315 : decode method_5_code 315 = .ok (.bipush 7, 2) := by decide +kernel
theorem own_d39_317 : decode method_5_code 317 = .ok (.ldc2_w 58, 3) := by decide +kernel
theorem own_d39_320 : decode method_5_code 320 = .ok (.invokestatic 68, 3) := by decide +kernel
theorem own_d39_323 : decode method_5_code 323 = .ok (.aload 6, 2) := by decide +kernel
theorem own_d39_325 : decode method_5_code 325 = .ok (.iload 5, 2) := by decide +kernel
theorem own_d39_327 : decode method_5_code 327 = .ok (.lload_n 2, 1) := by decide +kernel
theorem own_d39_328 : decode method_5_code 328 = .ok (.iload 4, 2) := by decide +kernel
theorem own_d39_330 : decode method_5_code 330 = .ok (.bipush 8, 2) := by decide +kernel
theorem own_d39_332 : decode method_5_code 332 = .ok (.ldc2_w 60, 3) := by decide +kernel
theorem own_d39_335 : decode method_5_code 335 = .ok (.invokestatic 68, 3) := by decide +kernel
theorem own_d39_338 : decode method_5_code 338 = .ok (.aload 6, 2) := by decide +kernel
theorem own_d39_340 : decode method_5_code 340 = .ok (.iload 5, 2) := by decide +kernel
theorem own_d39_342 : decode method_5_code 342 = .ok (.lload_n 2, 1) := by decide +kernel
theorem own_d39_343 : decode method_5_code 343 = .ok (.iload 4, 2) := by decide +kernel
theorem own_d39_345 : decode method_5_code 345 = .ok (.bipush 9, 2) := by decide +kernel
theorem own_d39_347 : decode method_5_code 347 = .ok (.ldc2_w 62, 3) := by decide +kernel
theorem own_d39_350 : decode method_5_code 350 = .ok (.invokestatic 68, 3) := by decide +kernel
theorem own_d39_353 : decode method_5_code 353 = .ok (.new 32, 3) := by decide +kernel
theorem own_d39_356 : decode method_5_code 356 = .ok (.dup, 1) := by decide +kernel
theorem own_d39_357 : decode method_5_code 357 = .ok (.aload 6, 2) := by decide +kernel
theorem own_d39_359 : decode method_5_code 359 = .ok (.invokespecial 72, 3) := by decide +kernel
theorem own_pd21 : parseMethodDescriptor "([C)V" = some ⟨[(.array .char)], none⟩ := by decide +kernel
theorem own_d39_362 : decode method_5_code 362 = .ok (.areturn, 1) := by decide +kernel
theorem own_d39_8 : decode method_5_code 8 = .ok (.iconst 0, 1) := by decide +kernel
theorem own_d39_20 : decode method_5_code 20 = .ok (.iload_n 0, 1) := by decide +kernel
theorem own_d39_21 : decode method_5_code 21 = .ok (.i2l, 1) := by decide +kernel
theorem own_d39_39 : decode method_5_code 39 = .ok (.iconst 0, 1) := by decide +kernel
theorem own_d50_0 : decode jdk_18_method_1_code 0 = .ok (.aload_n 0, 1) := by decide +kernel
theorem own_d50_1 : decode jdk_18_method_1_code 1 = .ok (.invokespecial 1, 3) := by decide +kernel
theorem own_d50_4 : decode jdk_18_method_1_code 4 = .ok (.return_, 1) := by decide +kernel
theorem own_pn7 : plainName "java/lang/Number" = true := by first | (simp [plainName, overriddenIn]; done) | decide +kernel
theorem own_d49_0 : decode jdk_33_method_23_code 0 = .ok (.aload_n 0, 1) := by decide +kernel
theorem own_d49_1 : decode jdk_33_method_23_code 1 = .ok (.invokespecial 202, 3) := by decide +kernel
theorem own_pd22 : parseMethodDescriptor "()V" = some ⟨[], none⟩ := by decide +kernel
theorem own_d49_4 : decode jdk_33_method_23_code 4 = .ok (.aload_n 0, 1) := by decide +kernel
theorem own_d49_5 : decode jdk_33_method_23_code 5 = .ok (.iload_n 1, 1) := by decide +kernel
theorem own_d49_6 : decode jdk_33_method_23_code 6 = .ok (.putfield 205, 3) := by decide +kernel
theorem own_d49_9 : decode jdk_33_method_23_code 9 = .ok (.return_, 1) := by decide +kernel
theorem own_d36_0 : decode jdk_33_method_27_code 0 = .ok (.aload_n 0, 1) := by decide +kernel
theorem own_d36_1 : decode jdk_33_method_27_code 1 = .ok (.getfield 205, 3) := by decide +kernel
theorem own_d36_4 : decode jdk_33_method_27_code 4 = .ok (.ireturn, 1) := by decide +kernel
theorem own_d2_0 : decode jdk_33_method_22_code 0 = .ok (.iload_n 0, 1) := by decide +kernel
theorem own_d2_1 : decode jdk_33_method_22_code 1 = .ok (.bipush (-128), 2) := by decide +kernel
theorem own_d2_3 : decode jdk_33_method_22_code 3 = .ok (.if_icmp .lt 20, 3) := by decide +kernel
theorem own_d2_23 : decode jdk_33_method_22_code 23 = .ok (.new 1, 3) := by decide +kernel
theorem own_d2_26 : decode jdk_33_method_22_code 26 = .ok (.dup, 1) := by decide +kernel
theorem own_d2_27 : decode jdk_33_method_22_code 27 = .ok (.iload_n 0, 1) := by decide +kernel
theorem own_d2_28 : decode jdk_33_method_22_code 28 = .ok (.invokespecial 199, 3) := by decide +kernel
theorem own_d2_31 : decode jdk_33_method_22_code 31 = .ok (.areturn, 1) := by decide +kernel
theorem own_d2_6 : decode jdk_33_method_22_code 6 = .ok (.iload_n 0, 1) := by decide +kernel
theorem own_d2_7 : decode jdk_33_method_22_code 7 = .ok (.getstatic 191, 3) := by decide +kernel
theorem own_d2_10 : decode jdk_33_method_22_code 10 = .ok (.if_icmp .gt 13, 3) := by decide +kernel
theorem own_d2_13 : decode jdk_33_method_22_code 13 = .ok (.getstatic 195, 3) := by decide +kernel
theorem own_d2_16 : decode jdk_33_method_22_code 16 = .ok (.iload_n 0, 1) := by decide +kernel
theorem own_d2_17 : decode jdk_33_method_22_code 17 = .ok (.sipush 128, 3) := by decide +kernel
theorem own_d2_20 : decode jdk_33_method_22_code 20 = .ok (.iadd, 1) := by decide +kernel
theorem own_d2_21 : decode jdk_33_method_22_code 21 = .ok (.aaload, 1) := by decide +kernel
theorem own_d2_22 : decode jdk_33_method_22_code 22 = .ok (.areturn, 1) := by decide +kernel
theorem own_d3_0 : decode prog_28_method_7_code 0 = .ok (.iload_n 0, 1) := by decide +kernel
theorem own_d3_1 : decode prog_28_method_7_code 1 = .ok (.sipush 200, 3) := by decide +kernel
theorem own_d3_4 : decode prog_28_method_7_code 4 = .ok (.if_icmp .lt 14, 3) := by decide +kernel
theorem own_d3_18 : decode prog_28_method_7_code 18 = .ok (.iconst 0, 1) := by decide +kernel
theorem own_d3_19 : decode prog_28_method_7_code 19 = .ok (.ireturn, 1) := by decide +kernel
theorem own_d3_7 : decode prog_28_method_7_code 7 = .ok (.iload_n 0, 1) := by decide +kernel
theorem own_d3_8 : decode prog_28_method_7_code 8 = .ok (.sipush 299, 3) := by decide +kernel
theorem own_d3_11 : decode prog_28_method_7_code 11 = .ok (.if_icmp .gt 7, 3) := by decide +kernel
theorem own_d3_14 : decode prog_28_method_7_code 14 = .ok (.iconst 1, 1) := by decide +kernel
theorem own_d3_15 : decode prog_28_method_7_code 15 = .ok (.goto 4, 3) := by decide +kernel
theorem own_pn8 : plainName "com/example/durable_cron/durablecron/store/RequestOutcome" = true := by first | (simp [plainName, overriddenIn]; done) | decide +kernel
theorem own_d35_0 : decode prog_28_method_5_code 0 = .ok (.aload_n 0, 1) := by decide +kernel
theorem own_d35_1 : decode prog_28_method_5_code 1 = .ok (.getfield 7, 3) := by decide +kernel
theorem own_d35_4 : decode prog_28_method_5_code 4 = .ok (.areturn, 1) := by decide +kernel
theorem own_d38_0 : decode prog_28_method_6_code 0 = .ok (.aload_n 0, 1) := by decide +kernel
theorem own_d38_1 : decode prog_28_method_6_code 1 = .ok (.getfield 13, 3) := by decide +kernel
theorem own_d38_4 : decode prog_28_method_6_code 4 = .ok (.areturn, 1) := by decide +kernel
theorem own_d34_0 : decode prog_28_method_1_code 0 = .ok (.aload_n 0, 1) := by decide +kernel
theorem own_d34_1 : decode prog_28_method_1_code 1 = .ok (.invokespecial 1, 3) := by decide +kernel
theorem own_d34_4 : decode prog_28_method_1_code 4 = .ok (.aload_n 0, 1) := by decide +kernel
theorem own_d34_5 : decode prog_28_method_1_code 5 = .ok (.aload_n 1, 1) := by decide +kernel
theorem own_d34_6 : decode prog_28_method_1_code 6 = .ok (.putfield 7, 3) := by decide +kernel
theorem own_d34_9 : decode prog_28_method_1_code 9 = .ok (.aload_n 0, 1) := by decide +kernel
theorem own_d34_10 : decode prog_28_method_1_code 10 = .ok (.aload_n 2, 1) := by decide +kernel
theorem own_d34_11 : decode prog_28_method_1_code 11 = .ok (.putfield 13, 3) := by decide +kernel
theorem own_d34_14 : decode prog_28_method_1_code 14 = .ok (.return_, 1) := by decide +kernel
theorem own_d37_0 : decode prog_28_method_4_code 0 = .ok (.aload_n 0, 1) := by decide +kernel
theorem own_d37_1 : decode prog_28_method_4_code 1 = .ok (.getfield 7, 3) := by decide +kernel
theorem own_d37_4 : decode prog_28_method_4_code 4 = .ok (.ifnull 20, 3) := by decide +kernel
theorem own_d37_7 : decode prog_28_method_4_code 7 = .ok (.aload_n 0, 1) := by decide +kernel
theorem own_d37_8 : decode prog_28_method_4_code 8 = .ok (.getfield 7, 3) := by decide +kernel
theorem own_d37_11 : decode prog_28_method_4_code 11 = .ok (.invokevirtual 48, 3) := by decide +kernel
theorem own_d37_14 : decode prog_28_method_4_code 14 = .ok (.invokestatic 23, 3) := by decide +kernel
theorem own_pd23 : parseMethodDescriptor "(I)Z" = some ⟨[.int], some .boolean⟩ := by decide +kernel
theorem own_d37_17 : decode prog_28_method_4_code 17 = .ok (.ifCond .eq 7, 3) := by decide +kernel
theorem own_d37_24 : decode prog_28_method_4_code 24 = .ok (.iconst 0, 1) := by decide +kernel
theorem own_d37_25 : decode prog_28_method_4_code 25 = .ok (.ireturn, 1) := by decide +kernel
theorem own_d37_20 : decode prog_28_method_4_code 20 = .ok (.iconst 1, 1) := by decide +kernel
theorem own_d37_21 : decode prog_28_method_4_code 21 = .ok (.goto 4, 3) := by decide +kernel
theorem own_d1_0 : decode prog_28_method_2_code 0 = .ok (.new 8, 3) := by decide +kernel
theorem own_d1_3 : decode prog_28_method_2_code 3 = .ok (.dup, 1) := by decide +kernel
theorem own_d1_4 : decode prog_28_method_2_code 4 = .ok (.iload_n 0, 1) := by decide +kernel
theorem own_d1_5 : decode prog_28_method_2_code 5 = .ok (.invokestatic 17, 3) := by decide +kernel
theorem own_pd24 : parseMethodDescriptor "(I)Ljava/lang/Integer;" = some ⟨[.int], some (.object "java/lang/Integer")⟩ := by decide +kernel
theorem own_d1_8 : decode prog_28_method_2_code 8 = .ok (.iload_n 0, 1) := by decide +kernel
theorem own_d1_9 : decode prog_28_method_2_code 9 = .ok (.invokestatic 23, 3) := by decide +kernel
theorem own_d1_12 : decode prog_28_method_2_code 12 = .ok (.ifCond .eq 8, 3) := by decide +kernel
theorem own_d1_20 : decode prog_28_method_2_code 20 = .ok (.new 29, 3) := by decide +kernel
theorem own_d1_23 : decode prog_28_method_2_code 23 = .ok (.dup, 1) := by decide +kernel
theorem own_d1_24 : decode prog_28_method_2_code 24 = .ok (.invokespecial 31, 3) := by decide +kernel
theorem own_d1_27 : decode prog_28_method_2_code 27 = .ok (.ldc 32, 2) := by decide +kernel
theorem own_d1_29 : decode prog_28_method_2_code 29 = .ok (.invokevirtual 34, 3) := by decide +kernel
theorem own_pd25 : parseMethodDescriptor "(Ljava/lang/String;)Ljava/lang/StringBuilder;" = some ⟨[(.object "java/lang/String")], some (.object "java/lang/StringBuilder")⟩ := by decide +kernel
theorem own_d1_32 : decode prog_28_method_2_code 32 = .ok (.iload_n 0, 1) := by decide +kernel
theorem own_d1_33 : decode prog_28_method_2_code 33 = .ok (.invokevirtual 38, 3) := by decide +kernel
theorem own_pd26 : parseMethodDescriptor "(I)Ljava/lang/StringBuilder;" = some ⟨[.int], some (.object "java/lang/StringBuilder")⟩ := by decide +kernel
theorem own_d1_36 : decode prog_28_method_2_code 36 = .ok (.invokevirtual 41, 3) := by decide +kernel
theorem own_pd27 : parseMethodDescriptor "()Ljava/lang/String;" = some ⟨[], some (.object "java/lang/String")⟩ := by decide +kernel
theorem own_d1_39 : decode prog_28_method_2_code 39 = .ok (.invokespecial 45, 3) := by decide +kernel
theorem own_pd28 : parseMethodDescriptor "(Ljava/lang/Integer;Ljava/lang/String;)V" = some ⟨[(.object "java/lang/Integer"), (.object "java/lang/String")], none⟩ := by decide +kernel
theorem own_d1_42 : decode prog_28_method_2_code 42 = .ok (.areturn, 1) := by decide +kernel
theorem own_d1_15 : decode prog_28_method_2_code 15 = .ok (.ldc 27, 2) := by decide +kernel
theorem own_d1_17 : decode prog_28_method_2_code 17 = .ok (.goto 22, 3) := by decide +kernel
theorem own_pd29 : parseMethodDescriptor "(I)Lcom/example/durable_cron/durablecron/store/RequestOutcome;" = some ⟨[.int], some (.object "com/example/durable_cron/durablecron/store/RequestOutcome")⟩ := by decide +kernel
theorem own_pd30 : parseMethodDescriptor "()Ljava/lang/Integer;" = some ⟨[], some (.object "java/lang/Integer")⟩ := by decide +kernel
theorem own_pd31 : parseMethodDescriptor "(I)Ljava/lang/String;" = some ⟨[.int], some (.object "java/lang/String")⟩ := by decide +kernel
theorem own_pd32 : parseMethodDescriptor "(Ljava/lang/Object;)Z" = some ⟨[(.object "java/lang/Object")], some .boolean⟩ := by decide +kernel
theorem own_sint {Z : State} {args : Array Value} {C n d : String} {k : Int32} (h : (Cond.eq (Term.static C n d) (Term.int k)).value args Z none Z [] = some true) (hi : (Cond.initializedFor C n d).before args Z = true ∨ ((Cond.initialized C).before args Z = true ∧ (Cond.laysStatic C n d).before args Z = true)) : Sta Z Z.heap C n d (.int k) := by
  refine Sta.start ?_ hi
  obtain ⟨x, y, h1, h2, -⟩ := cmp_v (Or.inl h)
  have h2' : some (Value.int k) = some y := h2
  cases h2'
  simp only [Cond.value, h1, h2] at h
  cases x <;> simp at h
  rw [h1, h]
theorem own_ccn (x : Int32) : nar .char (x.toUInt32.toUInt16.toUInt32.toInt32) = x.toUInt32.toUInt16.toUInt32.toInt32 := own_cc x
theorem own_cplF {Z : State} {h : Heap} {a : Addr} {k : ClassId} {ty : FieldType} {z : Int32} {d : Value} (n : Nat) (us : List Value) (F : Arv Z h a k ty z (((List.replicate n (0 : Int32)).map Value.int).take 0 ++ us ++ ((List.replicate n (0 : Int32)).map Value.int).drop (0 + n)) d) : Arv Z h a k ty z us d := by
  have e : ((List.replicate n (0 : Int32)).map Value.int).take 0 ++ us ++ ((List.replicate n (0 : Int32)).map Value.int).drop (0 + n) = us := by simp
  rw [e] at F; exact F
theorem own_lget (L : List Int32) (k : Nat) : (L.map Value.int).getD k (.int (0 : Int32)) = .int (L.getD k 0) := by
  simp only [List.getD_eq_getElem?_getD, List.getElem?_map]
  cases L[k]? <;> rfl
theorem own_lset {L : List Int32} {k : Nat} {v : Int32} : (L.map Value.int).set k (.int v) = (L.set k v).map Value.int := List.map_set.symm
theorem own_lpad {Z : State} {h : Heap} {a : Addr} {k : ClassId} {ty : FieldType} {z : Int32} (n : Nat) (F : Arv Z h a k ty z [] (.int 0)) : Arv Z h a k ty z ((List.replicate n (0 : Int32)).map Value.int) (.int 0) := F.pad fun i => by
  rw [own_lget, List.getD_eq_getElem?_getD, List.getElem?_replicate]
  split <;> rfl
theorem own_cidx {x : Int32} (h1 : ¬ x < (-128 : Int32)) (h2 : ¬ (127 : Int32) < x) : ¬ (x + (128 : Int32) < 0 ∨ (256 : Int32).toNatClampNeg ≤ (x + (128 : Int32)).toNatClampNeg) := by
  rw [Int32.lt_iff_toInt_lt] at h1 h2
  have a1 : (-128 : Int32).toInt = -128 := rfl
  have a2 : (127 : Int32).toInt = 127 := rfl
  have a3 : (128 : Int32).toInt = 128 := rfl
  have q : (x + 128).toInt = x.toInt + 128 := by rw [Int32.toInt_add]; exact Int.bmod_eq_of_le (by omega) (by omega)
  rintro (h | h)
  · rw [Int32.lt_iff_toInt_lt, q] at h; have : (0 : Int32).toInt = 0 := rfl; omega
  · have a4 : (256 : Int32).toNatClampNeg = 256 := rfl
    rw [a4] at h; simp only [Int32.toNatClampNeg, q] at h; omega
theorem own_cval (x : Int32) : x + (128 : Int32) - 128 = x := Int32.add_sub_cancel x 128
theorem own_ne_or {r b n : Nat} {k : Nat} (h : r < n ∨ k ≤ r) (h1 : n ≤ b) (h2 : b < k) : b ≠ r := by omega
theorem own_len {Z : State} {args : Array Value} {t : Term} {a : Addr} {c : Cell} {ty : FieldType} {k : Int32} (e : t.eval args Z none [] Z = some (.ref a)) (A : Arr Z Z.heap a c ty) (h : (Cond.eq (Term.length t) (Term.int k)).value args Z none Z [] = some true) : c.slots.size < 2 ^ 31 ∧ c.slots.size.toInt32 = k := by
  obtain ⟨x, y, e1, e2, -⟩ := cmp_v (Or.inl h)
  have hl : c.slots.size < 2 ^ 31 := by
    have z := A.fin (Vm.Alike.refl _)
    cases Nat.lt_or_ge c.slots.size (2 ^ 31) with
    | inl q => exact q
    | inr q => simp [Term.eval, e, z, Nat.not_lt.mpr q] at e1
  have e3 := len_f e (A.fin (Vm.Alike.refl _)) hl
  exact ⟨hl, gotT (Cond.eq_ints e3 (Term.int_eval k)) h⟩
theorem own_idx128 {Z : State} {args : Array Value} {j : Int32} (hj : ¬ j < 0) : (Term.sub (Term.index 0) (Term.int 128)).eval args Z none [j.toNatClampNeg] Z = some (.int (j - 128)) := by
  simp [Term.eval, (back32 hj).1]
theorem own_twin {Z : State} {args : Array Value} {C n d n' d' : String} {v w : Value} (S : Sta Z Z.heap C n d v) (l1 : (Cond.laysStatic C n d).before args Z = true) (l2 : (Cond.laysStatic C n' d').before args Z = true) (e : (Term.static C n' d').eval args Z none [] Z = some w) : Sta Z Z.heap C n' d' w := by
  obtain ⟨cf, i, k, f, st, cell, h1, h2, h3, h4, h5, h6, h7⟩ := S
  obtain ⟨c2, k2, i2, f2, st2, cell2, q1, q2, -⟩ := Cond.laysStatic_spec l1
  cases h1.symm.trans q2
  have hi : (Cond.initialized C).before args Z = true := by
    have := State.fieldFound?_class h1
    simp [Cond.before, Cond.holds, Cond.value, q1, this, h3]
  exact Sta.start e (Or.inr ⟨hi, l2⟩)
def own_n (s : Int32) : Nat := s.toInt.natAbs
def own_dig (s : Int32) (j : Nat) : Int32 := Int32.ofNat (48 + own_n s / 10 ^ j % 10)
def own_tab1 : List Int32 := (List.range 100).map fun r => Int32.ofNat (48 + r % 10)
def own_tab2 : List Int32 := (List.range 100).map fun r => Int32.ofNat (48 + r / 10)
theorem own_t1 {r : Nat} (h : r < 100) : own_tab1.getD r 0 = Int32.ofNat (48 + r % 10) := by simp [own_tab1, List.getD_eq_getElem?_getD, h]
theorem own_t2 {r : Nat} (h : r < 100) : own_tab2.getD r 0 = Int32.ofNat (48 + r / 10) := by simp [own_tab2, List.getD_eq_getElem?_getD, h]
theorem own_n_le (s : Int32) : own_n s ≤ 2147483648 := by have := rng32 s; unfold own_n; omega
theorem own_d_ones (s : Int32) (m : Nat) : own_tab1.getD (own_n s / 10 ^ m % 100) 0 = own_dig s m := by
  rw [own_t1 (Nat.mod_lt _ (by decide)), own_dig]; congr 2; omega
theorem own_div2 (n m : Nat) : n / 10 ^ (m + 1) = n / 10 ^ m / 10 := by rw [Nat.pow_succ, Nat.div_div_eq_div_mul]
theorem own_d_tens (s : Int32) (m : Nat) : own_tab2.getD (own_n s / 10 ^ m % 100) 0 = own_dig s (m + 1) := by
  rw [own_t2 (Nat.mod_lt _ (by decide)), own_dig, own_div2]; congr 2; omega
theorem own_dig_id (s : Int32) (j : Nat) : (own_dig s j).toInt8.toInt32 = own_dig s j := Jvm.Free.SBG.dgNarrow _ (by have := Nat.mod_lt (own_n s / 10 ^ j) (show 10 > 0 by decide); omega)
theorem own_n_div (s : Int32) (m : Nat) : own_n s / 10 ^ m ≤ 2147483648 := Nat.le_trans (Nat.div_le_self _ _) (own_n_le s)
theorem own_qs {s ic : Int32} {m : Nat} (h : ic.toInt = -((own_n s / 10 ^ m : Nat) : Int)) : (ic / (100 : Int32)).toInt = -((own_n s / 10 ^ (m + 2) : Nat) : Int) := by
  have e : own_n s / 10 ^ (m + 2) = own_n s / 10 ^ m / 100 := by rw [own_div2, own_div2]; omega
  have c := c_idiv ic 100 100 rfl (by decide)
  generalize own_n s / 10 ^ m = x at *
  rw [e]
  by_cases q : ic.toInt < 0
  · have := c.2 q; omega
  · have := c.1 (by omega); omega
theorem own_rs {s ic : Int32} {m : Nat} (h : ic.toInt = -((own_n s / 10 ^ m : Nat) : Int)) : (((ic / (100 : Int32)) * (100 : Int32)) - ic).toInt = ((own_n s / 10 ^ m % 100 : Nat) : Int) := by
  have q := own_qs h
  have e : own_n s / 10 ^ (m + 2) = own_n s / 10 ^ m / 100 := by rw [own_div2, own_div2]; omega
  have l := own_n_div s m
  have a := c_imul (ic / (100 : Int32)) 100
  have b := c_isub ((ic / (100 : Int32)) * (100 : Int32)) ic
  have r1 := rng32 ((ic / (100 : Int32)) * (100 : Int32))
  have r2 := rng32 (((ic / (100 : Int32)) * (100 : Int32)) - ic)
  have t : (100 : Int32).toInt = 100 := rfl
  rw [t, q, e] at a
  generalize own_n s / 10 ^ m = x at *
  omega
theorem own_ng {s ic : Int32} {m : Nat} (h : ic.toInt = -((own_n s / 10 ^ m : Nat) : Int)) (q : (-100 : Int32) < ic) : (-ic).toInt = ((own_n s / 10 ^ m % 100 : Nat) : Int) := by
  rw [Int32.lt_iff_toInt_lt] at q
  have t : (-100 : Int32).toInt = -100 := rfl
  have a := c_ineg ic
  have r := rng32 (-ic)
  generalize own_n s / 10 ^ m = x at *
  omega
theorem own_clamp {x : Int32} {n : Nat} (h : x.toInt = (n : Int)) : x.toNatClampNeg = n := by
  show x.toInt.toNat = n; rw [h]; rfl
def own_nd (n : Nat) : Nat := if n < 10 then 1 else if n < 100 then 2 else if n < 1000 then 3 else if n < 10000 then 4 else if n < 100000 then 5 else if n < 1000000 then 6 else if n < 10000000 then 7 else if n < 100000000 then 8 else if n < 1000000000 then 9 else 10
def own_sg (s : Int32) : Nat := if s < 0 then 1 else 0
def own_sz (s : Int32) : Int32 := Int32.ofNat (own_nd (own_n s) + own_sg s)
def own_wr (s : Int32) (p : Nat) : Nat → List Int32 → List Int32
  | 0, L => L
  | m + 1, L => (own_wr s p m L).set (p - 1 - m) (own_dig s m)
theorem own_nd_a0 {n : Nat} (h2 : n / 10 ^ 0 < 10) : own_nd n = 1 := by
  unfold own_nd; (repeat' split) <;> omega
theorem own_nd_b0 {n : Nat} (h1 : 10 ≤ n / 10 ^ 0) (h2 : n / 10 ^ 0 < 100) : own_nd n = 2 := by
  unfold own_nd; (repeat' split) <;> omega
theorem own_nd_c0 {n : Nat} (h1 : 100 ≤ n / 10 ^ 0) : 3 ≤ own_nd n := by
  unfold own_nd; (repeat' split) <;> omega
theorem own_nd_a2 {n : Nat} (h1 : 1 ≤ n / 10 ^ 2) (h2 : n / 10 ^ 2 < 10) : own_nd n = 3 := by
  unfold own_nd; (repeat' split) <;> omega
theorem own_nd_b2 {n : Nat} (h1 : 10 ≤ n / 10 ^ 2) (h2 : n / 10 ^ 2 < 100) : own_nd n = 4 := by
  unfold own_nd; (repeat' split) <;> omega
theorem own_nd_c2 {n : Nat} (h1 : 100 ≤ n / 10 ^ 2) : 5 ≤ own_nd n := by
  unfold own_nd; (repeat' split) <;> omega
theorem own_nd_a4 {n : Nat} (h1 : 1 ≤ n / 10 ^ 4) (h2 : n / 10 ^ 4 < 10) : own_nd n = 5 := by
  unfold own_nd; (repeat' split) <;> omega
theorem own_nd_b4 {n : Nat} (h1 : 10 ≤ n / 10 ^ 4) (h2 : n / 10 ^ 4 < 100) : own_nd n = 6 := by
  unfold own_nd; (repeat' split) <;> omega
theorem own_nd_c4 {n : Nat} (h1 : 100 ≤ n / 10 ^ 4) : 7 ≤ own_nd n := by
  unfold own_nd; (repeat' split) <;> omega
theorem own_nd_a6 {n : Nat} (h1 : 1 ≤ n / 10 ^ 6) (h2 : n / 10 ^ 6 < 10) : own_nd n = 7 := by
  unfold own_nd; (repeat' split) <;> omega
theorem own_nd_b6 {n : Nat} (h1 : 10 ≤ n / 10 ^ 6) (h2 : n / 10 ^ 6 < 100) : own_nd n = 8 := by
  unfold own_nd; (repeat' split) <;> omega
theorem own_nd_c6 {n : Nat} (h1 : 100 ≤ n / 10 ^ 6) : 9 ≤ own_nd n := by
  unfold own_nd; (repeat' split) <;> omega
theorem own_nd_a8 {n : Nat} (h1 : 1 ≤ n / 10 ^ 8) (h2 : n / 10 ^ 8 < 10) : own_nd n = 9 := by
  unfold own_nd; (repeat' split) <;> omega
theorem own_nd_b8 {n : Nat} (h1 : 10 ≤ n / 10 ^ 8) (h2 : n / 10 ^ 8 < 100) : own_nd n = 10 := by
  unfold own_nd; (repeat' split) <;> omega
theorem own_nd_r (n : Nat) : 1 ≤ own_nd n ∧ own_nd n ≤ 10 := by unfold own_nd; (repeat' split) <;> omega
theorem own_in100 {x : Int32} {n : Nat} (h : x.toInt = ((n % 100 : Nat) : Int)) : ¬ x < (0 : Int32) ∧ x < (100 : Int32) := by
  rw [Int32.lt_iff_toInt_lt, Int32.lt_iff_toInt_lt]
  have a : (0 : Int32).toInt = 0 := rfl
  have b : (100 : Int32).toInt = 100 := rfl
  omega
theorem own_rd1 {s x : Int32} {m : Nat} (h : x.toInt = ((own_n s / 10 ^ m % 100 : Nat) : Int)) : own_tab1.getD x.toNatClampNeg 0 = own_dig s m := by rw [own_clamp h, own_d_ones]
theorem own_rd2 {s x : Int32} {m : Nat} (h : x.toInt = ((own_n s / 10 ^ m % 100 : Nat) : Int)) : own_tab2.getD x.toNatClampNeg 0 = own_dig s (m + 1) := by rw [own_clamp h, own_d_tens]
theorem own_in34 {x : Int32} {n : Nat} (h : x.toInt = (n : Int)) (q : n < 34) : ¬ x < (0 : Int32) ∧ x < (34 : Int32) := by
  rw [Int32.lt_iff_toInt_lt, Int32.lt_iff_toInt_lt]
  have a : (0 : Int32).toInt = 0 := rfl
  have b : (34 : Int32).toInt = 34 := rfl
  omega
theorem own_dec1 {x : Int32} {n : Nat} (h : x.toInt = (n : Int)) (q : 1 ≤ n) : (x + (-1 : Int32)).toInt = ((n - 1 : Nat) : Int) := by
  have a := c_iadd x (-1)
  have b : (-1 : Int32).toInt = -1 := rfl
  have r := rng32 (x + (-1 : Int32))
  have r' := rng32 x
  omega
theorem own_wr_len (s : Int32) (p : Nat) : ∀ (m : Nat) (L : List Int32), (own_wr s p m L).length = L.length
  | 0, _ => rfl
  | m + 1, L => by rw [own_wr, List.length_set, own_wr_len s p m L]
theorem own_wr_s {s x : Int32} {p m : Nat} {L : List Int32} (h : x.toInt = ((p - m - 1 : Nat) : Int)) : (own_wr s p m L).set x.toNatClampNeg (own_dig s m) = own_wr s p (m + 1) L := by
  rw [own_clamp h, own_wr, Nat.sub_right_comm]
def own_fin (s : Int32) (p : Nat) (L : List Int32) : List Int32 := if s < 0 then (own_wr s p (own_nd (own_n s)) L).set (p - 1 - own_nd (own_n s)) 45 else own_wr s p (own_nd (own_n s)) L
theorem own_nd_d2 {n : Nat} (h1 : 1 ≤ n / 10 ^ 2) : 3 ≤ own_nd n := by
  unfold own_nd; (repeat' split) <;> omega
theorem own_nd_d4 {n : Nat} (h1 : 1 ≤ n / 10 ^ 4) : 5 ≤ own_nd n := by
  unfold own_nd; (repeat' split) <;> omega
theorem own_nd_d6 {n : Nat} (h1 : 1 ≤ n / 10 ^ 6) : 7 ≤ own_nd n := by
  unfold own_nd; (repeat' split) <;> omega
theorem own_nd_d8 {n : Nat} (h1 : 1 ≤ n / 10 ^ 8) : 9 ≤ own_nd n := by
  unfold own_nd; (repeat' split) <;> omega
theorem own_lt100 {s ic : Int32} {m : Nat} (h : ic.toInt = -((own_n s / 10 ^ m : Nat) : Int)) (q : (-100 : Int32) < ic) : own_n s / 10 ^ m < 100 := by
  rw [Int32.lt_iff_toInt_lt] at q
  have t : (-100 : Int32).toInt = -100 := rfl
  generalize own_n s / 10 ^ m = x at *
  omega
theorem own_ge100 {s ic : Int32} {m : Nat} (h : ic.toInt = -((own_n s / 10 ^ m : Nat) : Int)) (q : ¬ (-100 : Int32) < ic) : 100 ≤ own_n s / 10 ^ m := by
  rw [Int32.lt_iff_toInt_lt] at q
  have t : (-100 : Int32).toInt = -100 := rfl
  generalize own_n s / 10 ^ m = x at *
  omega
theorem own_lt9 {s ic : Int32} {m : Nat} (h : ic.toInt = -((own_n s / 10 ^ m : Nat) : Int)) (q : ic < (-9 : Int32)) : 10 ≤ own_n s / 10 ^ m := by
  rw [Int32.lt_iff_toInt_lt] at q
  have t : (-9 : Int32).toInt = -9 := rfl
  generalize own_n s / 10 ^ m = x at *
  omega
theorem own_ge9 {s ic : Int32} {m : Nat} (h : ic.toInt = -((own_n s / 10 ^ m : Nat) : Int)) (q : ¬ ic < (-9 : Int32)) : own_n s / 10 ^ m < 10 := by
  rw [Int32.lt_iff_toInt_lt] at q
  have t : (-9 : Int32).toInt = -9 := rfl
  generalize own_n s / 10 ^ m = x at *
  omega
theorem own_no8 {s ic : Int32} (h : ic.toInt = -((own_n s / 10 ^ 8 : Nat) : Int)) : (-100 : Int32) < ic := by
  rw [Int32.lt_iff_toInt_lt]
  have t : (-100 : Int32).toInt = -100 := rfl
  have := own_n_le s
  omega
theorem own_hge {s : Int32} {m : Nat} (h : 100 ≤ own_n s / 10 ^ m) : 1 ≤ own_n s / 10 ^ (m + 2) := by
  have e : own_n s / 10 ^ (m + 2) = own_n s / 10 ^ m / 100 := by rw [own_div2, own_div2]; omega
  omega
theorem own_hi1 {s : Int32} (h : s < (0 : Int32)) : s.toInt = -((own_n s / 10 ^ 0 : Nat) : Int) := by
  rw [Int32.lt_iff_toInt_lt] at h
  have t : (0 : Int32).toInt = 0 := rfl
  unfold own_n; omega
theorem own_hi0 {s : Int32} (h : ¬ s < (0 : Int32)) : (-s).toInt = -((own_n s / 10 ^ 0 : Nat) : Int) := by
  rw [Int32.lt_iff_toInt_lt] at h
  have t : (0 : Int32).toInt = 0 := rfl
  have a := c_ineg s
  have r := rng32 (-s)
  have r' := rng32 s
  unfold own_n; omega
theorem own_se1 {n : Nat} {x : Int32} (hx : x.toInt = -((n / 10 ^ 0 : Nat) : Int)) (h2 : (-10 : Int32) < x) : own_nd n = 1 := by
  rw [Int32.lt_iff_toInt_lt] at h2
  have t2 : (-10 : Int32).toInt = -10 := rfl
  unfold own_nd; (repeat' split) <;> omega
theorem own_se2 {n : Nat} {x : Int32} (hx : x.toInt = -((n / 10 ^ 0 : Nat) : Int)) (h1 : ¬ (-10 : Int32) < x) (h2 : (-100 : Int32) < x) : own_nd n = 2 := by
  rw [Int32.lt_iff_toInt_lt] at h1
  have t1 : (-10 : Int32).toInt = -10 := rfl
  rw [Int32.lt_iff_toInt_lt] at h2
  have t2 : (-100 : Int32).toInt = -100 := rfl
  unfold own_nd; (repeat' split) <;> omega
theorem own_se3 {n : Nat} {x : Int32} (hx : x.toInt = -((n / 10 ^ 0 : Nat) : Int)) (h1 : ¬ (-100 : Int32) < x) (h2 : (-1000 : Int32) < x) : own_nd n = 3 := by
  rw [Int32.lt_iff_toInt_lt] at h1
  have t1 : (-100 : Int32).toInt = -100 := rfl
  rw [Int32.lt_iff_toInt_lt] at h2
  have t2 : (-1000 : Int32).toInt = -1000 := rfl
  unfold own_nd; (repeat' split) <;> omega
theorem own_se4 {n : Nat} {x : Int32} (hx : x.toInt = -((n / 10 ^ 0 : Nat) : Int)) (h1 : ¬ (-1000 : Int32) < x) (h2 : (-10000 : Int32) < x) : own_nd n = 4 := by
  rw [Int32.lt_iff_toInt_lt] at h1
  have t1 : (-1000 : Int32).toInt = -1000 := rfl
  rw [Int32.lt_iff_toInt_lt] at h2
  have t2 : (-10000 : Int32).toInt = -10000 := rfl
  unfold own_nd; (repeat' split) <;> omega
theorem own_se5 {n : Nat} {x : Int32} (hx : x.toInt = -((n / 10 ^ 0 : Nat) : Int)) (h1 : ¬ (-10000 : Int32) < x) (h2 : (-100000 : Int32) < x) : own_nd n = 5 := by
  rw [Int32.lt_iff_toInt_lt] at h1
  have t1 : (-10000 : Int32).toInt = -10000 := rfl
  rw [Int32.lt_iff_toInt_lt] at h2
  have t2 : (-100000 : Int32).toInt = -100000 := rfl
  unfold own_nd; (repeat' split) <;> omega
theorem own_se6 {n : Nat} {x : Int32} (hx : x.toInt = -((n / 10 ^ 0 : Nat) : Int)) (h1 : ¬ (-100000 : Int32) < x) (h2 : (-1000000 : Int32) < x) : own_nd n = 6 := by
  rw [Int32.lt_iff_toInt_lt] at h1
  have t1 : (-100000 : Int32).toInt = -100000 := rfl
  rw [Int32.lt_iff_toInt_lt] at h2
  have t2 : (-1000000 : Int32).toInt = -1000000 := rfl
  unfold own_nd; (repeat' split) <;> omega
theorem own_se7 {n : Nat} {x : Int32} (hx : x.toInt = -((n / 10 ^ 0 : Nat) : Int)) (h1 : ¬ (-1000000 : Int32) < x) (h2 : (-10000000 : Int32) < x) : own_nd n = 7 := by
  rw [Int32.lt_iff_toInt_lt] at h1
  have t1 : (-1000000 : Int32).toInt = -1000000 := rfl
  rw [Int32.lt_iff_toInt_lt] at h2
  have t2 : (-10000000 : Int32).toInt = -10000000 := rfl
  unfold own_nd; (repeat' split) <;> omega
theorem own_se8 {n : Nat} {x : Int32} (hx : x.toInt = -((n / 10 ^ 0 : Nat) : Int)) (h1 : ¬ (-10000000 : Int32) < x) (h2 : (-100000000 : Int32) < x) : own_nd n = 8 := by
  rw [Int32.lt_iff_toInt_lt] at h1
  have t1 : (-10000000 : Int32).toInt = -10000000 := rfl
  rw [Int32.lt_iff_toInt_lt] at h2
  have t2 : (-100000000 : Int32).toInt = -100000000 := rfl
  unfold own_nd; (repeat' split) <;> omega
theorem own_se9 {n : Nat} {x : Int32} (hx : x.toInt = -((n / 10 ^ 0 : Nat) : Int)) (h1 : ¬ (-100000000 : Int32) < x) (h2 : (-1000000000 : Int32) < x) : own_nd n = 9 := by
  rw [Int32.lt_iff_toInt_lt] at h1
  have t1 : (-100000000 : Int32).toInt = -100000000 := rfl
  rw [Int32.lt_iff_toInt_lt] at h2
  have t2 : (-1000000000 : Int32).toInt = -1000000000 := rfl
  unfold own_nd; (repeat' split) <;> omega
theorem own_se10 {n : Nat} {x : Int32} (hx : x.toInt = -((n / 10 ^ 0 : Nat) : Int)) (h1 : ¬ (-1000000000 : Int32) < x) : own_nd n = 10 := by
  rw [Int32.lt_iff_toInt_lt] at h1
  have t1 : (-1000000000 : Int32).toInt = -1000000000 := rfl
  unfold own_nd; (repeat' split) <;> omega
theorem own_szn {s : Int32} {k : Nat} {z : Int32} (h : s < (0 : Int32)) (q : own_nd (own_n s) = k) (e : z = Int32.ofNat (k + 1)) : some (Value.int z) = some (Value.int (own_sz s)) := by rw [e, own_sz, q, own_sg, if_pos h]
theorem own_szp {s : Int32} {k : Nat} {z : Int32} (h : ¬ s < (0 : Int32)) (q : own_nd (own_n s) = k) (e : z = Int32.ofNat k) : some (Value.int z) = some (Value.int (own_sz s)) := by rw [e, own_sz, q, own_sg, if_neg h]; rfl
theorem own_dl1 {n : Nat} {x : Int64} (hx : x.toInt = (n : Int)) (h2 : x < (10 : Int64)) : some (Value.int (1 : Int32)) = some (Value.int (Int32.ofNat (own_nd n))) := by
  rw [Int64.lt_iff_toInt_lt] at h2
  have t2 : (10 : Int64).toInt = 10 := rfl
  have e : own_nd n = 1 := by unfold own_nd; (repeat' split) <;> omega
  rw [e]; rfl
theorem own_dl2 {n : Nat} {x : Int64} (hx : x.toInt = (n : Int)) (h1 : ¬ x < (10 : Int64)) (h2 : x < (100 : Int64)) : some (Value.int (2 : Int32)) = some (Value.int (Int32.ofNat (own_nd n))) := by
  rw [Int64.lt_iff_toInt_lt] at h1
  have t1 : (10 : Int64).toInt = 10 := rfl
  rw [Int64.lt_iff_toInt_lt] at h2
  have t2 : (100 : Int64).toInt = 100 := rfl
  have e : own_nd n = 2 := by unfold own_nd; (repeat' split) <;> omega
  rw [e]; rfl
theorem own_dl3 {n : Nat} {x : Int64} (hx : x.toInt = (n : Int)) (h1 : ¬ x < (100 : Int64)) (h2 : x < (1000 : Int64)) : some (Value.int (3 : Int32)) = some (Value.int (Int32.ofNat (own_nd n))) := by
  rw [Int64.lt_iff_toInt_lt] at h1
  have t1 : (100 : Int64).toInt = 100 := rfl
  rw [Int64.lt_iff_toInt_lt] at h2
  have t2 : (1000 : Int64).toInt = 1000 := rfl
  have e : own_nd n = 3 := by unfold own_nd; (repeat' split) <;> omega
  rw [e]; rfl
theorem own_dl4 {n : Nat} {x : Int64} (hx : x.toInt = (n : Int)) (h1 : ¬ x < (1000 : Int64)) (h2 : x < (10000 : Int64)) : some (Value.int (4 : Int32)) = some (Value.int (Int32.ofNat (own_nd n))) := by
  rw [Int64.lt_iff_toInt_lt] at h1
  have t1 : (1000 : Int64).toInt = 1000 := rfl
  rw [Int64.lt_iff_toInt_lt] at h2
  have t2 : (10000 : Int64).toInt = 10000 := rfl
  have e : own_nd n = 4 := by unfold own_nd; (repeat' split) <;> omega
  rw [e]; rfl
theorem own_dl5 {n : Nat} {x : Int64} (hx : x.toInt = (n : Int)) (h1 : ¬ x < (10000 : Int64)) (h2 : x < (100000 : Int64)) : some (Value.int (5 : Int32)) = some (Value.int (Int32.ofNat (own_nd n))) := by
  rw [Int64.lt_iff_toInt_lt] at h1
  have t1 : (10000 : Int64).toInt = 10000 := rfl
  rw [Int64.lt_iff_toInt_lt] at h2
  have t2 : (100000 : Int64).toInt = 100000 := rfl
  have e : own_nd n = 5 := by unfold own_nd; (repeat' split) <;> omega
  rw [e]; rfl
theorem own_dl6 {n : Nat} {x : Int64} (hx : x.toInt = (n : Int)) (h1 : ¬ x < (100000 : Int64)) (h2 : x < (1000000 : Int64)) : some (Value.int (6 : Int32)) = some (Value.int (Int32.ofNat (own_nd n))) := by
  rw [Int64.lt_iff_toInt_lt] at h1
  have t1 : (100000 : Int64).toInt = 100000 := rfl
  rw [Int64.lt_iff_toInt_lt] at h2
  have t2 : (1000000 : Int64).toInt = 1000000 := rfl
  have e : own_nd n = 6 := by unfold own_nd; (repeat' split) <;> omega
  rw [e]; rfl
theorem own_dl7 {n : Nat} {x : Int64} (hx : x.toInt = (n : Int)) (h1 : ¬ x < (1000000 : Int64)) (h2 : x < (10000000 : Int64)) : some (Value.int (7 : Int32)) = some (Value.int (Int32.ofNat (own_nd n))) := by
  rw [Int64.lt_iff_toInt_lt] at h1
  have t1 : (1000000 : Int64).toInt = 1000000 := rfl
  rw [Int64.lt_iff_toInt_lt] at h2
  have t2 : (10000000 : Int64).toInt = 10000000 := rfl
  have e : own_nd n = 7 := by unfold own_nd; (repeat' split) <;> omega
  rw [e]; rfl
theorem own_dl8 {n : Nat} {x : Int64} (hx : x.toInt = (n : Int)) (h1 : ¬ x < (10000000 : Int64)) (h2 : x < (100000000 : Int64)) : some (Value.int (8 : Int32)) = some (Value.int (Int32.ofNat (own_nd n))) := by
  rw [Int64.lt_iff_toInt_lt] at h1
  have t1 : (10000000 : Int64).toInt = 10000000 := rfl
  rw [Int64.lt_iff_toInt_lt] at h2
  have t2 : (100000000 : Int64).toInt = 100000000 := rfl
  have e : own_nd n = 8 := by unfold own_nd; (repeat' split) <;> omega
  rw [e]; rfl
theorem own_dl9 {n : Nat} {x : Int64} (hx : x.toInt = (n : Int)) (h1 : ¬ x < (100000000 : Int64)) (h2 : x < (1000000000 : Int64)) : some (Value.int (9 : Int32)) = some (Value.int (Int32.ofNat (own_nd n))) := by
  rw [Int64.lt_iff_toInt_lt] at h1
  have t1 : (100000000 : Int64).toInt = 100000000 := rfl
  rw [Int64.lt_iff_toInt_lt] at h2
  have t2 : (1000000000 : Int64).toInt = 1000000000 := rfl
  have e : own_nd n = 9 := by unfold own_nd; (repeat' split) <;> omega
  rw [e]; rfl
theorem own_dl10 {n : Nat} {x : Int64} (hx : x.toInt = (n : Int)) (h1 : ¬ x < (1000000000 : Int64)) : some (Value.int (10 : Int32)) = some (Value.int (Int32.ofNat (own_nd n))) := by
  rw [Int64.lt_iff_toInt_lt] at h1
  have t1 : (1000000000 : Int64).toInt = 1000000000 := rfl
  have e : own_nd n = 10 := by unfold own_nd; (repeat' split) <;> omega
  rw [e]; rfl
theorem own_dig_c (s : Int32) (j : Nat) : (own_dig s j).toUInt32.toUInt16.toUInt32.toInt32 = own_dig s j := by
  have q := Nat.mod_lt (own_n s / 10 ^ j) (show 10 > 0 by decide)
  have : ∀ k : Fin 128, (Int32.ofNat k.val).toUInt32.toUInt16.toUInt32.toInt32 = Int32.ofNat k.val := by decide +kernel
  exact this ⟨48 + own_n s / 10 ^ j % 10, by omega⟩
theorem own_pc {s : Int32} {j : Nat} {av pv : Int64} (ha : av.toInt = (own_n s : Int)) (hp : pv.toInt = ((10 ^ j : Nat) : Int)) : (((48 : Int32) + (((av / pv) - ((av / pv) / (10 : Int64)) * (10 : Int64)).toInt32)).toUInt32.toUInt16.toUInt32.toInt32) = own_dig s j := by
  have p0 : 0 < 10 ^ j := Nat.pow_pos (by decide)
  have hne : pv ≠ -1 := fun q => by rw [q] at hp; have t : (-1 : Int64).toInt = -1 := rfl; omega
  have d := (c_ldiv av pv _ hp hne).1 (by omega)
  rw [ha, ← Int.natCast_ediv] at d
  have l := own_n_div s j
  have x : ((48 : Int32) + (((av / pv) - ((av / pv) / (10 : Int64)) * (10 : Int64)).toInt32)) = own_dig s j := by
    rw [own_dig]
    generalize own_n s / 10 ^ j = z at d l ⊢
    have m := (c_lrem (av / pv) 10 10 rfl).1 (by omega)
    rw [d] at m
    have e := c_l2i ((av / pv) - ((av / pv) / (10 : Int64)) * (10 : Int64))
    rw [m] at e
    have r1 := rng32 (((av / pv) - ((av / pv) / (10 : Int64)) * (10 : Int64)).toInt32)
    have a := c_iadd 48 (((av / pv) - ((av / pv) / (10 : Int64)) * (10 : Int64)).toInt32)
    have t : (48 : Int32).toInt = 48 := rfl
    have r := rng32 ((48 : Int32) + (((av / pv) - ((av / pv) / (10 : Int64)) * (10 : Int64)).toInt32))
    apply Int32.toInt_inj.mp
    rw [Int32.toInt_ofNat_of_lt (by show _ < 2147483648; omega)]
    omega
  rw [x, own_dig_c]
theorem own_pz {j : Nat} {pv : Int64} (hp : pv.toInt = ((10 ^ j : Nat) : Int)) : ¬ pv = (0 : Int64) := fun q => by
  have p0 : 0 < 10 ^ j := Nat.pow_pos (by decide)
  rw [q] at hp; have t : (0 : Int64).toInt = 0 := rfl
  omega
def own_lit : List Int32 := [116, 104, 101, 32, 114, 101, 99, 101, 105, 118, 101, 114, 32, 97, 110, 115, 119, 101, 114, 101, 100, 32]
def own_lit34 : List Int32 := [116, 104, 101, 32, 114, 101, 99, 101, 105, 118, 101, 114, 32, 97, 110, 115, 119, 101, 114, 101, 100, 32, 0, 0, 0, 0, 0, 0, 0, 0, 0, 0, 0, 0]
def own_tl (s : Int32) : Nat := 22 + own_nd (own_n s) + own_sg s
def own_L (s : Int32) : Int32 := Int32.ofNat (own_tl s)
theorem own_sg_r (s : Int32) : own_sg s ≤ 1 := by unfold own_sg; split <;> omega
theorem own_tl_r (s : Int32) : 23 ≤ own_tl s ∧ own_tl s ≤ 33 := by
  have a := own_nd_r (own_n s); have b := own_sg_r s; unfold own_tl; omega
theorem own_L_i (s : Int32) : (own_L s).toInt = (own_tl s : Int) := by
  have := own_tl_r s
  rw [own_L, Int32.toInt_ofNat_of_lt (by show _ < 2147483648; omega)]
theorem own_L0 (s : Int32) : ¬ own_L s < (0 : Int32) := by
  rw [Int32.lt_iff_toInt_lt, own_L_i]; have a : (0 : Int32).toInt = 0 := rfl
  omega
theorem own_Lc (s : Int32) : (own_L s).toNatClampNeg = own_tl s := own_clamp (own_L_i s)
theorem own_L33 (s : Int32) : (own_L s).toNatClampNeg ≤ 33 := by rw [own_Lc]; exact (own_tl_r s).2
theorem own_22 (s : Int32) : (22 : Int32) + own_sz s = own_L s := by
  rw [own_L, own_tl, Nat.add_assoc, Int32.ofNat_add]; rfl
theorem own_23 {s : Int32} (h : s < (0 : Int32)) : (23 : Int32) + Int32.ofNat (own_nd (own_n s)) = own_L s := by
  rw [own_L, own_tl, own_sg, if_pos h, Nat.add_right_comm, Int32.ofNat_add]; rfl
theorem own_22n {s : Int32} (h : ¬ s < (0 : Int32)) : (22 : Int32) + Int32.ofNat (own_nd (own_n s)) = own_L s := by
  rw [own_L, own_tl, own_sg, if_neg h, Nat.add_zero, Int32.ofNat_add]; rfl
theorem own_nog (s : Int32) : ¬ (0 : Int32) < (own_L s - (34 : Int32)) := by
  have a := c_isub (own_L s) 34
  have r := rng32 (own_L s - (34 : Int32))
  have b : (34 : Int32).toInt = 34 := rfl
  have z : (0 : Int32).toInt = 0 := rfl
  have l := own_tl_r s
  rw [own_L_i] at a
  rw [Int32.lt_iff_toInt_lt]
  omega
theorem own_n34 {x : Int32} {n : Nat} (h : x.toInt = (n : Int)) (q : n ≤ 33) : ¬ x = (34 : Int32) := fun e => by
  rw [e] at h; have b : (34 : Int32).toInt = 34 := rfl
  omega
theorem own_lt34 {x : Int32} {n : Nat} (h : x.toInt = (n : Int)) (q : n ≤ 33) : x < (34 : Int32) := by
  rw [Int32.lt_iff_toInt_lt]; have b : (34 : Int32).toInt = 34 := rfl
  omega
theorem own_ge0 {x : Int32} {n : Nat} (h : x.toInt = (n : Int)) : ¬ x < (0 : Int32) := by
  rw [Int32.lt_iff_toInt_lt]; have b : (0 : Int32).toInt = 0 := rfl
  omega
theorem own_sub0 (x : Int32) : x - (0 : Int32) = x := Int32.sub_zero x
theorem own_cpu {bs : List Int32} {n : Nat} (hb : bs.length = 34) (hn : n ≤ 33) : (bs.take n).map Value.int = (List.range n).map fun i => (bs.map Value.int).getD (0 + i) (.int 0) := by
  apply List.ext_getElem
  · simp; omega
  · intro i h1 h2
    simp only [List.length_map, List.length_range, List.length_take] at h1 h2
    simp [own_lget, List.getD_eq_getElem?_getD, List.getElem?_eq_getElem (show i < bs.length by omega)]
theorem own_cpl {n : Nat} {us : List Value} : ((List.replicate n (0 : Int32)).map Value.int).take 0 ++ us ++ ((List.replicate n (0 : Int32)).map Value.int).drop (0 + n) = us := by
  simp
theorem own_av1 {s : Int32} (h : s < (0 : Int32)) : (-(s.toInt64)).toInt = (own_n s : Int) := by
  rw [Int32.lt_iff_toInt_lt] at h
  have t : (0 : Int32).toInt = 0 := rfl
  have a := c_lneg s.toInt64
  have b := c_i2l s
  have r := rng64 (-(s.toInt64))
  have r' := rng32 s
  unfold own_n; omega
theorem own_av0 {s : Int32} (h : ¬ s < (0 : Int32)) : (s.toInt64).toInt = (own_n s : Int) := by
  rw [Int32.lt_iff_toInt_lt] at h
  have t : (0 : Int32).toInt = 0 := rfl
  rw [c_i2l]; unfold own_n; omega
theorem own_ndi (n : Nat) : (Int32.ofNat (own_nd n)).toInt = (own_nd n : Int) := by
  have := own_nd_r n
  rw [Int32.toInt_ofNat_of_lt (by show _ < 2147483648; omega)]
def own_put (s : Int32) (d p j : Nat) (L : List Int32) : List Int32 := if j < d then L.set (p - 1 - j) (own_dig s j) else L
theorem own_put_len (s : Int32) (d p j : Nat) (L : List Int32) : (own_put s d p j L).length = L.length := by unfold own_put; split <;> simp
theorem own_ltN {x y : Int32} {a b : Nat} (h1 : x.toInt = (a : Int)) (h2 : y.toInt = (b : Int)) : x < y ↔ a < b := by
  rw [Int32.lt_iff_toInt_lt, h1, h2]; omega
theorem own_ix {ln jx : Int32} {p j : Nat} (h1 : ln.toInt = (p : Int)) (h2 : jx.toInt = (j : Int)) (h3 : p ≤ 33) (h4 : j < p) : ((ln - (1 : Int32)) - jx).toInt = ((p - 1 - j : Nat) : Int) := by
  have a := c_isub ln 1
  have b := c_isub (ln - (1 : Int32)) jx
  have t : (1 : Int32).toInt = 1 := rfl
  have r1 := rng32 (ln - (1 : Int32))
  have r2 := rng32 ((ln - (1 : Int32)) - jx)
  omega
theorem own_inp {x y : Int32} {a b : Nat} (h1 : x.toInt = (a : Int)) (h2 : y.toInt = (b : Int)) (q : a < b) : ¬ x < (0 : Int32) ∧ x < y := ⟨own_ge0 h1, (own_ltN h1 h2).mpr q⟩
def own_ex (n : Nat) : Nat → List Int32
  | 0 => List.replicate n 0
  | k + 1 => (own_ex n k).set k (own_lit.getD k 0)
theorem own_ex_len (n : Nat) : ∀ k, (own_ex n k).length = n
  | 0 => List.length_replicate
  | k + 1 => by rw [own_ex, List.length_set, own_ex_len n k]
theorem own_inx (s : Int32) {i : Int32} (h0 : ¬ i < (0 : Int32)) (h : i < (23 : Int32)) : ¬ i < (0 : Int32) ∧ i < own_L s := by
  refine ⟨h0, ?_⟩
  rw [Int32.lt_iff_toInt_lt] at h ⊢
  have a : (23 : Int32).toInt = 23 := rfl
  have := own_tl_r s
  rw [own_L_i]; omega
theorem own_lx (s : Int32) {i : Nat} {M : List Int32} (hM : M.length = own_tl s) (h : i < 23) : i < (M.map Value.int).length := by
  have := own_tl_r s
  rw [List.length_map, hM]; omega
def own_base (s : Int32) : List Int32 := if s < 0 then (own_ex (own_tl s) 22).set 22 45 else own_ex (own_tl s) 22
theorem own_base_len (s : Int32) : (own_base s).length = own_tl s := by unfold own_base; split <;> simp [own_ex_len]
def own_pw (s : Int32) (d p : Nat) (L : List Int32) : Nat → List Int32
  | 0 => L
  | j + 1 => own_put s d p j (own_pw s d p L j)
theorem own_pw_len (s : Int32) (d p : Nat) (L : List Int32) : ∀ j, (own_pw s d p L j).length = L.length
  | 0 => rfl
  | j + 1 => by rw [own_pw, own_put_len, own_pw_len s d p L j]
def own_exp (s : Int32) : List Int32 := own_pw s (own_nd (own_n s)) (own_tl s) (own_base s) 10
def own_txt (s : Int32) : List Int32 := (own_fin s (own_tl s) own_lit34).take (own_tl s)
def own_ok (s : Int32) : Int32 := if s < 200 then 0 else if 299 < s then 0 else 1
def own_res (s : Int32) : List Int32 := if own_ok s = 0 then own_txt s else []
def own_G (c : Int32) : Prop := c.toInt8.toInt32 = c ∧ ¬ c < 0 ∧ ¬ (127 : Int32) < c
theorem own_G_dig (s : Int32) (j : Nat) : own_G (own_dig s j) := by
  have q := Nat.mod_lt (own_n s / 10 ^ j) (show 10 > 0 by decide)
  have : ∀ k : Fin 128, (Int32.ofNat k.val).toInt8.toInt32 = Int32.ofNat k.val ∧ ¬ Int32.ofNat k.val < 0 ∧ ¬ (127 : Int32) < Int32.ofNat k.val := by decide +kernel
  exact this ⟨48 + own_n s / 10 ^ j % 10, by omega⟩
theorem own_G_set {L : List Int32} {v : Int32} (k : Nat) (h : ∀ c ∈ L, own_G c) (hv : own_G v) : ∀ c ∈ L.set k v, own_G c := fun c hc => by
  rcases List.mem_or_eq_of_mem_set hc with q | q
  · exact h c q
  · rw [q]; exact hv
theorem own_G_lit : ∀ c ∈ own_lit34, own_G c := by unfold own_G; decide +kernel
theorem own_G_wr (s : Int32) (p : Nat) {L : List Int32} (h : ∀ c ∈ L, own_G c) : ∀ m, ∀ c ∈ own_wr s p m L, own_G c
  | 0 => h
  | m + 1 => own_G_set _ (own_G_wr s p h m) (own_G_dig s m)
theorem own_G_txt (s : Int32) : ∀ c ∈ own_txt s, own_G c := fun c hc => by
  have q := List.mem_of_mem_take hc
  unfold own_fin at q
  split at q
  · exact own_G_set _ (own_G_wr _ _ own_G_lit _) (by unfold own_G; decide +kernel) c q
  · exact own_G_wr _ _ own_G_lit _ c q
theorem own_G_res (s : Int32) : ∀ c ∈ own_res s, own_G c := fun c hc => by
  unfold own_res at hc
  split at hc
  · exact own_G_txt s c hc
  · cases hc
theorem own_law (s : Int32) : own_txt s = own_exp s := by
  have hr := own_nd_r (own_n s)
  unfold own_txt own_exp own_base own_fin own_tl own_sg
  generalize own_nd (own_n s) = d at hr ⊢
  by_cases h : s < 0
  · rw [if_pos h, if_pos h, if_pos h]
    have : d = 1 ∨ d = 2 ∨ d = 3 ∨ d = 4 ∨ d = 5 ∨ d = 6 ∨ d = 7 ∨ d = 8 ∨ d = 9 ∨ d = 10 := by omega
    rcases this with rfl | rfl | rfl | rfl | rfl | rfl | rfl | rfl | rfl | rfl <;> rfl
  · rw [if_neg h, if_neg h, if_neg h]
    have : d = 1 ∨ d = 2 ∨ d = 3 ∨ d = 4 ∨ d = 5 ∨ d = 6 ∨ d = 7 ∨ d = 8 ∨ d = 9 ∨ d = 10 := by omega
    rcases this with rfl | rfl | rfl | rfl | rfl | rfl | rfl | rfl | rfl | rfl <;> rfl
theorem own_txt_len (s : Int32) : (own_txt s).length = own_tl s := by
  have := own_tl_r s
  have q : (own_fin s (own_tl s) own_lit34).length = 34 := by unfold own_fin; split <;> simp [own_wr_len] <;> rfl
  unfold own_txt
  rw [List.length_take, q]; omega
theorem own_exp_len (s : Int32) : (own_exp s).length = own_tl s := by rw [← own_law, own_txt_len]
theorem own_ok1 {s : Int32} (h1 : ¬ s < (200 : Int32)) (h2 : ¬ (299 : Int32) < s) : own_ok s = 1 := by rw [own_ok, if_neg h1, if_neg h2]
theorem own_okl {s : Int32} (h1 : s < (200 : Int32)) : own_ok s = 0 := by rw [own_ok, if_pos h1]
theorem own_okg {s : Int32} (h1 : ¬ s < (200 : Int32)) (h2 : (299 : Int32) < s) : own_ok s = 0 := by rw [own_ok, if_neg h1, if_pos h2]
theorem own_ok_b (s : Int32) : own_ok s = 0 ∨ own_ok s = 1 := by unfold own_ok; split; exact Or.inl rfl; split; exact Or.inl rfl; exact Or.inr rfl
theorem own_xs0 {n : Nat} : (own_ex n 0).set ((0 : Int32)).toNatClampNeg (116 : Int32) = own_ex n 1 := rfl
theorem own_xs1 {n : Nat} : (own_ex n 1).set ((1 : Int32)).toNatClampNeg (104 : Int32) = own_ex n 2 := rfl
theorem own_xs2 {n : Nat} : (own_ex n 2).set ((2 : Int32)).toNatClampNeg (101 : Int32) = own_ex n 3 := rfl
theorem own_xs3 {n : Nat} : (own_ex n 3).set ((3 : Int32)).toNatClampNeg (32 : Int32) = own_ex n 4 := rfl
theorem own_xs4 {n : Nat} : (own_ex n 4).set ((4 : Int32)).toNatClampNeg (114 : Int32) = own_ex n 5 := rfl
theorem own_xs5 {n : Nat} : (own_ex n 5).set ((5 : Int32)).toNatClampNeg (101 : Int32) = own_ex n 6 := rfl
theorem own_xs6 {n : Nat} : (own_ex n 6).set ((6 : Int32)).toNatClampNeg (99 : Int32) = own_ex n 7 := rfl
theorem own_xs7 {n : Nat} : (own_ex n 7).set ((7 : Int32)).toNatClampNeg (101 : Int32) = own_ex n 8 := rfl
theorem own_xs8 {n : Nat} : (own_ex n 8).set ((8 : Int32)).toNatClampNeg (105 : Int32) = own_ex n 9 := rfl
theorem own_xs9 {n : Nat} : (own_ex n 9).set ((9 : Int32)).toNatClampNeg (118 : Int32) = own_ex n 10 := rfl
theorem own_xs10 {n : Nat} : (own_ex n 10).set ((10 : Int32)).toNatClampNeg (101 : Int32) = own_ex n 11 := rfl
theorem own_xs11 {n : Nat} : (own_ex n 11).set ((11 : Int32)).toNatClampNeg (114 : Int32) = own_ex n 12 := rfl
theorem own_xs12 {n : Nat} : (own_ex n 12).set ((12 : Int32)).toNatClampNeg (32 : Int32) = own_ex n 13 := rfl
theorem own_xs13 {n : Nat} : (own_ex n 13).set ((13 : Int32)).toNatClampNeg (97 : Int32) = own_ex n 14 := rfl
theorem own_xs14 {n : Nat} : (own_ex n 14).set ((14 : Int32)).toNatClampNeg (110 : Int32) = own_ex n 15 := rfl
theorem own_xs15 {n : Nat} : (own_ex n 15).set ((15 : Int32)).toNatClampNeg (115 : Int32) = own_ex n 16 := rfl
theorem own_xs16 {n : Nat} : (own_ex n 16).set ((16 : Int32)).toNatClampNeg (119 : Int32) = own_ex n 17 := rfl
theorem own_xs17 {n : Nat} : (own_ex n 17).set ((17 : Int32)).toNatClampNeg (101 : Int32) = own_ex n 18 := rfl
theorem own_xs18 {n : Nat} : (own_ex n 18).set ((18 : Int32)).toNatClampNeg (114 : Int32) = own_ex n 19 := rfl
theorem own_xs19 {n : Nat} : (own_ex n 19).set ((19 : Int32)).toNatClampNeg (101 : Int32) = own_ex n 20 := rfl
theorem own_xs20 {n : Nat} : (own_ex n 20).set ((20 : Int32)).toNatClampNeg (100 : Int32) = own_ex n 21 := rfl
theorem own_xs21 {n : Nat} : (own_ex n 21).set ((21 : Int32)).toNatClampNeg (32 : Int32) = own_ex n 22 := rfl
theorem own_gp (s : Int32) : own_nd (own_n s) + own_sg s ≤ own_tl s := by unfold own_tl; omega
theorem own_fin_len (s : Int32) : (own_fin s (own_tl s) own_lit34).length = 34 := by unfold own_fin; split <;> simp [own_wr_len] <;> rfl
theorem own_dig_n (s : Int32) (j : Nat) : nar .char (own_dig s j) = own_dig s j := own_dig_c s j
theorem own_cls {s : State} {args : Array Value} {C : String} {y : MethodName} (h : (Cond.selects C y y).before args s = true) : ∃ c k, s.vm.findClass y.cls = some c ∧ s.vm.classes[c]? = some k ∧ k.isInterface = false := by
  obtain ⟨c2, r2, m2, q1, q2, q3, q4, kP, hkP, hkPi⟩ := Cond.selects_spec h
  exact ⟨m2.cls, kP, findClass_of_methodNamed q3, hkP, hkPi⟩
theorem own_nf {s : State} {args : Array Value} {C : String} {y z : MethodName} (h : (Cond.selects C y y).before args s = true) (hc : z.cls = y.cls) : NotFace s z := fun r0 h0 => by
  obtain ⟨c, k, h1, h2, h3⟩ := own_cls h
  have a := findClass_of_methodNamed h0
  rw [hc, h1] at a
  cases a
  exact ⟨k, h2, h3⟩
theorem own_same {s : State} {args : Array Value} {C : String} {y z : MethodName} (h : (Cond.selects C y y).before args s = true) (hi : (Cond.instanceMethod z).before args s = true) (hc : z.cls = y.cls) (hy : z.cls ≠ "java/lang/invoke/MethodHandle" ∧ z.cls ≠ "java/lang/invoke/VarHandle") : (Cond.sameMethod z.cls z.cls z.name z.desc).before args s = true := by
  obtain ⟨c, k, h1, h2, h3⟩ := own_cls h
  obtain ⟨mk, methM, hnamed, -⟩ := Cond.instanceMethod_spec hi
  have hf := State.methodFound?_of_named hnamed hy
  have hn : s.methodNamed? ⟨z.cls, z.name, z.desc⟩ = some mk := hnamed
  have h1' : s.vm.findClass z.cls = some c := by rw [hc]; exact h1
  simp [Cond.before, Cond.holds, Cond.value, hf, hn, h1', h2, h3]
theorem own_selp {s : State} {args : Array Value} {C : String} {y : MethodName} (h : (Cond.selects C y y).before args s = true) (hp : s.PrivateAt y) (hi : (Cond.instanceMethod y).before args s = true) (hy : y.cls ≠ "java/lang/invoke/MethodHandle" ∧ y.cls ≠ "java/lang/invoke/VarHandle") : (Cond.selects y.cls y y).before args s = true := by
  obtain ⟨c, k, h1, h2, h3⟩ := own_cls h
  exact Jvm.Stand.selects_self_of_private h1 h2 h3 hp hi hy
theorem own_backH {p : Program} {l : Launch} {e : Env} {R : Room} {s : State} {args : Array Value} {below : List Frame} {Z : State} {a0 : Array Value} {EL : List (String × Nat)} {h : Heap} {vm0 : Vm} {y : MethodName} {bytes : ByteArray} {maxL : Nat} {ret : Option FieldType} {rm : Room} {len W : Nat} {A0 : Array Value} {Q : Option Value → Heap → List Loc → Prop}
    (hM : MetFree l y (head1 [Cond.code y bytes maxL ret] rm) (fun a U => a = A0 ∧ Z.Warmed39 U.vm ∧ U.heap = h ∧ CHv Z EL U.vm h) (fun _ _ _ _ _ => True) (fun _ U o U' => ∃ v L, o = .returned v ∧ Q v U'.heap L ∧ ReturnedEndW U o U' L rm.cells rm.slots))
    (hZ : Z.Warmed39 vm0) (wc : (Cond.code y bytes maxL ret).before a0 Z = true) (wz : (Cond.initialized y.cls).before a0 Z = true) (hf : rm.frames + 1 ≤ R.frames) (hl : W + (maxL + 11) + rm.locals ≤ R.locals) (hEL : EW Z a0 EL) (H : CHv Z EL vm0 h) :
    BackS l R p e below (s.setVm vm0) args y len W (fun A a => a = A0 ∧ A.U.heap = h ∧ A.cells + rm.cells ≤ R.cells ∧ A.slots + rm.slots ≤ R.slots)
      (fun A _ v B => ∃ L, Q v B.U.heap L ∧ B.locs = A.locs ++ L ∧ B.cells = A.cells + rm.cells ∧ B.slots = A.slots + rm.slots) := by
  have warm : ∀ {U : State} , (s.setVm vm0).WarmedH U.vm → Z.Warmed39 U.vm := fun q => wtrans (s := s.setVm vm0) hZ q
  refine BackS.of_freeW (bytes := bytes) (maxL := maxL) (ret := ret) (E := fun _ _ o t L k n => k = rm.cells ∧ n = rm.slots ∧ ∃ v, o = .returned v ∧ Q v t.heap L) hM hf hl ?_ ?_ ?_ ?_ ?_
  · intro m meth c A a Y hp
    have hU := warm Y.warmed
    refine ⟨?_, mv hU wc, mv hU wz, hp.2.2.1, hp.2.2.2⟩
    show (Cond.and _ .tt).before a A.U = true
    rw [Cond.before_and, mv hU wc]; rfl
  · intro m meth c A a g mk Y hp
    exact ⟨hp.1, warm Y.warmed, hp.2.1, (CHv.at Y hZ hEL H).1⟩
  · intros; trivial
  · rintro _ _ _ _ ⟨v, L, h1, h2, h3⟩
    exact ⟨L, _, _, h3, rfl, rfl, v, h1, h2⟩
  · rintro m meth c A a g mk v t L k n Y hp _ _ ⟨rfl, rfl, v', e3, e4⟩
    cases e3
    exact ⟨L, e4, rfl, rfl, rfl⟩
theorem own_bmore {p : Program} {l : Launch} {e : Env} {R : Room} {s : State} {args : Array Value} {below : List Frame} {y : MethodName} {len W n N k : Nat} {Qv : Option Value → Heap → List Loc → Prop} {h : Heap} {A0 : Array Value}
    (hB : Back l R p e below s args y len W (fun P a => a = A0 ∧ P.U.heap = h ∧ P.cells + k ≤ R.cells ∧ P.slots + n ≤ R.slots) (fun P _ v B => ∃ L, Qv v B.U.heap L ∧ B.locs = P.locs ++ L ∧ B.cells = P.cells + k ∧ B.slots = P.slots + n)) (hn : n ≤ N) :
    Back l R p e below s args y len W (fun P a => a = A0 ∧ P.U.heap = h ∧ P.cells + k ≤ R.cells ∧ P.slots + N ≤ R.slots) (fun P _ v B => ∃ L, Qv v B.U.heap L ∧ B.locs = P.locs ++ L ∧ B.cells = P.cells + k ∧ B.slots = P.slots + N) := by
  intro m meth c A g ig mk a X hg hsize hdg hW hn' hp
  obtain ⟨h1, h2, h3, h4⟩ := hp
  obtain ⟨v, B, X', ⟨L, q1, q2, q3, q4⟩, st⟩ := hB m meth c A g ig mk a X hg hsize hdg hW hn' ⟨h1, h2, h3, Nat.le_trans (Nat.add_le_add_left hn _) h4⟩
  exact ⟨v, ⟨B.U, B.locs, B.cells, A.slots + N⟩, X'.more (Nat.le_refl _) (by rw [q4]; exact Nat.add_le_add_left hn _), ⟨L, q1, q2, q3, rfl⟩, st⟩
theorem own_len' {Z : State} {args : Array Value} {t : Term} {a : Addr} {c : Cell} {ty : FieldType} {k : Int32} (e : t.eval args Z none [] Z = some (.ref a)) (A : Arr Z Z.heap a c ty) (h : (Cond.eq (Term.length t) (Term.int k)).value args Z none Z [] = some true) (hk : ¬ k < 0) : c.slots.size = k.toNatClampNeg := by
  obtain ⟨q, r⟩ := own_len e A h
  rw [← r]; simp only [Int32.toNatClampNeg, len_toInt q]; rfl
theorem own_tbl {Z : State} {args : Array Value} {C n : String} {rhs : Term} {tab : List Int32} (hx : (Cond.exactly (Term.static C n "[B") "[B").before args Z = true) (hl : (Cond.eq (Term.length (Term.static C n "[B")) (Term.int 100)).before args Z = true)
    (ha : (Cond.all (Term.static C n "[B") (Cond.eq (Term.elem (Term.static C n "[B") (Term.index 0)) rhs)).before args Z = true) (wa : (Cond.arrayClass .byte).before args Z = true) (hr : ∀ k, k < 100 → rhs.eval args Z none [k] Z = some (.int (tab.getD k 0))) (hfit : ∀ k : Fin 100, fits .byte (.int (tab.getD k.val 0)) = true) :
    ∃ (a : Addr) (k : ClassId), (Term.static C n "[B").eval args Z none [] Z = some (.ref a) ∧ Arv Z Z.heap a k .byte (100 : Int32) (tab.map Value.int) (.int (0 : Int32)) := by
  obtain ⟨a, cB, D, kB, hev, hfcB, hcellD, hkB, hstatD, hclsD, -⟩ := Cond.exactly_spec hx
  obtain ⟨d', D', hev', harrAt, hlen⟩ := Term.length_spec (Cond.eq_int hl rfl)
  cases hev.symm.trans hev'
  obtain ⟨hcellD', hknD, -, -⟩ := State.arrayAt?_spec harrAt
  cases hcellD.symm.trans hcellD'
  obtain ⟨cB', kB', comp, hnameB, hkB', hkindB⟩ := Cond.arrayClass_spec wa
  have eBA : ("[" ++ FieldType.toString .byte) = "[B" := by decide
  rw [eBA] at hnameB
  cases hfcB.symm.trans hnameB
  cases hkB.symm.trans hkB'
  have A : Arr Z Z.heap a D .byte := ⟨hcellD, ⟨(fun q h => by rw [h] at hstatD; cases hstatD), kB, (by rw [hclsD]; exact hkB), comp, hkindB⟩, hknD⟩
  have S : D.slots.size = (100 : Int32).toNatClampNeg := own_len' hev A (Cond.before_iff.mp hl) (by decide)
  have S' : D.slots.size = 100 := S
  refine ⟨a, D.cls, hev, D, A, rfl, S, by decide, fun k hk => ?_, fun k hk => ?_⟩
  · have h := Cond.all_elim hev harrAt (Cond.before_iff.mp ha) k hk
    have ek : (Int32.ofNat k).toNatClampNeg = k := own_clamp (Int32.toInt_ofNat_of_lt (by show _ < 2147483648; omega))
    have hn : ¬ Int32.ofNat k < 0 := own_ge0 (n := k) (Int32.toInt_ofNat_of_lt (by show _ < 2147483648; omega))
    have et : (Term.static C n "[B").eval args Z none [k] Z = some (.ref a) := hev
    have q := eqv_i (hr k (by omega)) h
    have hi : (Term.index 0).eval args Z none [(Int32.ofNat k).toNatClampNeg] Z = some (.int (Int32.ofNat k)) := idx_at hn
    rw [ek] at hi
    rw [elem_f et hi harrAt hn, ek] at q
    rw [q, own_lget]
  · rw [own_lget]; exact hfit ⟨k, by omega⟩
theorem own_ht27 : (∀ c ∈ "".toList, c.toNat < 256) ∧ "".toList.map (fun c => Value.int (Jvm.Lit.byteI c.toNat.toUInt16)) = [] := ⟨by decide, rfl⟩
theorem own_wordsV : ∀ d ∈ StrChars.Road.words, d ∈ tables_1 := by decide +kernel
theorem own_wordsE : ∀ d ∈ StrChars.Road.wordsEq, d ∈ tables_1 := by decide +kernel
theorem own_wordsP : ∀ d ∈ StrChars.Road.wordsEmp, d ∈ tables_1 := by decide +kernel
theorem own_cod {L : List Int32} (h : ∀ c ∈ L, own_G c) : StrChars.Road.CodA L 0 (Int32.ofNat L.length) (L.map Value.int) := by
  refine Or.inl ⟨rfl, rfl, List.map_congr_left fun c hc => ?_, fun c hc q => ?_⟩
  · show Value.int c = Value.int (c.toInt8.toInt32); rw [(h c hc).1]
  · have w := (h c hc).2.2
    rw [Int32.lt_iff_toInt_lt] at w q
    have a : (127 : Int32).toInt = 127 := rfl
    have b : (255 : Int32).toInt = 255 := rfl
    omega
theorem own_cod2 {L : List Int32} {n : Nat} (e : L.length = n) (h : ∀ c ∈ L, own_G c) : StrChars.Road.CodA L 0 (Int32.ofNat n) ((L.map fun c => c.toInt8.toInt32).map Value.int) := by
  have q := own_cod h
  rw [e] at q
  rw [List.map_congr_left (g := id) (fun c hc => (h c hc).1), List.map_id]
  exact q
theorem own_hb {L : List Int32} (h : ∀ c ∈ L, own_G c) : ∀ c ∈ L, ¬ c < 0 ∧ ¬ (65535 : Int32) < c := fun c hc => ⟨(h c hc).2.1, fun q => by
  have w := (h c hc).2.2
  rw [Int32.lt_iff_toInt_lt] at w q
  have a : (127 : Int32).toInt = 127 := rfl
  have b : (65535 : Int32).toInt = 65535 := rfl
  omega⟩
theorem own_hb2 {L : List Int32} (h : ∀ c ∈ L, own_G c) : ∀ c ∈ L, ¬ c < 0 ∧ ¬ (255 : Int32) < c := fun c hc => ⟨(h c hc).2.1, fun q => by
  have w := (h c hc).2.2
  rw [Int32.lt_iff_toInt_lt] at w q
  have a : (127 : Int32).toInt = 127 := rfl
  have b : (255 : Int32).toInt = 255 := rfl
  omega⟩
theorem own_G_exp (s : Int32) : ∀ c ∈ own_exp s, own_G c := own_law s ▸ own_G_txt s
theorem own_dp (s : Int32) : own_nd (own_n s) ≤ own_tl s := by unfold own_tl; omega
theorem own_l4 (s : Int32) : (own_exp s).length ≤ 4000 := by rw [own_exp_len]; have := own_tl_r s; omega
theorem own_res0 {s : Int32} (h : own_ok s = 0) : own_res s = own_exp s := by rw [own_res, if_pos h, own_law]
theorem own_res1 {s : Int32} (h : own_ok s = 1) : own_res s = [] := by rw [own_res, if_neg (by rw [h]; decide)]
theorem own_ok_n {s : Int32} (h : ¬ own_ok s = 0) : own_ok s = 1 := (own_ok_b s).resolve_left h
theorem own_ht32 : (∀ c ∈ "the receiver answered ".toList, c.toNat < 256) ∧ "the receiver answered ".toList.map (fun c => Value.int (Jvm.Lit.byteI c.toNat.toUInt16)) = [(.int 116), (.int 104), (.int 101), (.int 32), (.int 114), (.int 101), (.int 99), (.int 101), (.int 105), (.int 118), (.int 101), (.int 114), (.int 32), (.int 97), (.int 110), (.int 115), (.int 119), (.int 101), (.int 114), (.int 101), (.int 100), (.int 32)] := ⟨by decide +kernel, by decide +kernel⟩

def own_MF (l : Launch) (Z : State) (y : MethodName) (cw : Cond) (ws : List Cond) (R : Room) (A : Array Value) (h0 : Heap) (Q : Option Value → Heap → List Loc → Prop) : Prop := MetFree l y (head1 (cw :: ws) R) (fun a_ U_ => a_ = A ∧ Z.Warmed39 U_.vm ∧ U_.heap = h0) (fun _ _ _ _ _ => True) (fun _ U_ o_ U'_ => ∃ v_ L_, o_ = .returned v_ ∧ Q v_ U'_.heap L_ ∧ FrameEnd U_ o_ U'_ L_ R.cells R.slots)
def own_P (h0 : Heap) (n0 : Nat) (v : Value) : Option Value → Heap → List Loc → Prop := fun v' h L => v' = some v ∧ Fr n0 L ∧ h = h0
theorem om {ws : List Cond} {a0 args : Array Value} {Z s : State} {d : Cond} (hZ : Z.Warmed39 s.vm) (hw : ∀ d ∈ ws, d.before a0 Z = true) (i : Nat) (h : ws[i]? = some d) (hd : (d.onTables && d.keepsFace) = true := by first | rfl | simp [Cond.onTables, Cond.keepsFace, Cond.keeps, Cond.steady]) : d.before args s = true := mvT hZ (hw _ (List.mem_of_getElem? h)) hd
abbrev own_W (a0 : Array Value) (Z : State) : Prop := ∀ d ∈ tables_1, d.before a0 Z = true
theorem own_open {l : Launch} {Z : State} {y : MethodName} {cw : Cond} {ws : List Cond} {R : Room} {A : Array Value} {h0 : Heap} {Q : Option Value → Heap → List Loc → Prop} {bytes : ByteArray} {maxL : Nat} {ret : Option FieldType} {Ls : Array Slot} (hp : plainFor y = true)
    (his : ∀ args (s : State) m, (head1 (cw :: ws) R).pre.before args s = true → s.methodNamed? y = some m → ∃ meth c, s.vm.method? m = some meth ∧ meth.code = some c ∧ c.code = bytes ∧ c.maxLocals = maxL ∧ meth.sig.returnType = ret ∧ meth.locks = false)
    (k : ∀ p e s m below meth c s₁, BodyLoose p l y (head1 (cw :: ws) R) bytes maxL ret e s m A below meth c s₁ → Z.Warmed39 s.vm → p.tables.exec = Jvm.exec → c.code = bytes → c.maxLocals = maxL → s.vm.findClass y.cls = some m.cls → Stand p l e R s m A below meth c s₁ [] 0 0 → s₁.heap = h0 → own_Go p e below (own_K s Q R.cells R.slots) s₁ (mkF m 0 Ls []))
    (he : ∀ m, entryFrame m A maxL = mkF m 0 Ls [] := by intro m; first | (simp [entryFrame, mkF, argsToLocals, Value.category]; done) | rfl) : own_MF l Z y cw ws R A h0 Q := by
  refine MetFree.of_bodySF hp his ?_
  intro p e s m args below meth c s₁ Bd hml hP hK
  obtain ⟨rfl, hZ, hh⟩ := hP
  exact own_in (he m) (k p e s m below meth c s₁ Bd hZ Bd.exec Bd.bytes hml (findClass_of_methodNamed Bd.named) (Stand.of_body Bd) (by rw [← hh, Bd.state]; rfl))
abbrev vi (x : Int32) : Slot := .val (.int x)
abbrev vr (x : Addr) : Slot := .val (.ref x)
abbrev vl (x : Int64) : Slot := .val (.long x)
theorem own_w {ws : List Cond} {a0 : Array Value} {Z : State} (hw : ∀ d ∈ ws, d.before a0 Z = true) (i : Nat) {d : Cond} (h : ws[i]? = some d) : d.before a0 Z = true := hw _ (List.mem_of_getElem? h)
set_option maxRecDepth 65536
set_option maxHeartbeats 40000000
abbrev own_y0 : MethodName := (⟨"java/lang/Integer", "getChars", "(II[B)I"⟩ : MethodName)
abbrev own_y1 : MethodName := (⟨"java/lang/Integer", "stringSize", "(I)I"⟩ : MethodName)
abbrev own_y2 : MethodName := (⟨"com/example/durable_cron/durablecron/store/RequestOutcomeAnsweredPinLaw", "digits", "(J)I"⟩ : MethodName)
abbrev own_y3 : MethodName := (⟨"java/lang/Math", "max", "(II)I"⟩ : MethodName)
abbrev own_y4 : MethodName := (⟨"java/lang/Math", "min", "(II)I"⟩ : MethodName)
abbrev own_y5 : MethodName := (⟨"jdk/internal/util/ArraysSupport", "newLength", "(III)I"⟩ : MethodName)
abbrev own_y6 : MethodName := (⟨"java/lang/String", "coder", "()B"⟩ : MethodName)
abbrev own_y7 : MethodName := (⟨"java/lang/String", "length", "()I"⟩ : MethodName)
abbrev own_y8 : MethodName := (⟨"java/lang/AbstractStringBuilder", "<init>", "(I)V"⟩ : MethodName)
abbrev own_y9 : MethodName := (⟨"java/lang/StringBuilder", "<init>", "()V"⟩ : MethodName)
abbrev own_y10 : MethodName := (⟨"java/util/Arrays", "copyOf", "([BI)[B"⟩ : MethodName)
abbrev own_y11 : MethodName := (⟨"java/lang/AbstractStringBuilder", "newCapacity", "(I)I"⟩ : MethodName)
abbrev own_y12 : MethodName := (⟨"java/lang/AbstractStringBuilder", "ensureCapacityInternal", "(I)V"⟩ : MethodName)
abbrev own_y13 : MethodName := (⟨"java/lang/AbstractStringBuilder", "inflateIfNeededFor", "(Ljava/lang/String;)V"⟩ : MethodName)
abbrev own_y14 : MethodName := (⟨"java/lang/String", "getBytes", "([BIB)V"⟩ : MethodName)
abbrev own_y15 : MethodName := (⟨"java/lang/AbstractStringBuilder", "putStringAt", "(ILjava/lang/String;)V"⟩ : MethodName)
abbrev own_y16 : MethodName := (⟨"java/lang/AbstractStringBuilder", "append", "(Ljava/lang/String;)Ljava/lang/AbstractStringBuilder;"⟩ : MethodName)
abbrev own_y17 : MethodName := (⟨"java/lang/StringBuilder", "append", "(Ljava/lang/String;)Ljava/lang/StringBuilder;"⟩ : MethodName)
abbrev own_y18 : MethodName := (⟨"java/lang/AbstractStringBuilder", "isLatin1", "()Z"⟩ : MethodName)
abbrev own_y19 : MethodName := (⟨"java/lang/AbstractStringBuilder", "getValue", "()[B"⟩ : MethodName)
abbrev own_y20 : MethodName := (⟨"java/lang/AbstractStringBuilder", "length", "()I"⟩ : MethodName)
abbrev own_y21 : MethodName := (⟨"java/lang/StringBuilder", "length", "()I"⟩ : MethodName)
abbrev own_y22 : MethodName := (⟨"java/lang/AbstractStringBuilder", "append", "(I)Ljava/lang/AbstractStringBuilder;"⟩ : MethodName)
abbrev own_y23 : MethodName := (⟨"java/lang/StringBuilder", "append", "(I)Ljava/lang/StringBuilder;"⟩ : MethodName)
abbrev own_y24 : MethodName := (⟨"java/util/Arrays", "checkLength", "(II)V"⟩ : MethodName)
abbrev own_y25 : MethodName := (⟨"java/util/Arrays", "copyOfRangeByte", "([BII)[B"⟩ : MethodName)
abbrev own_y26 : MethodName := (⟨"java/util/Arrays", "copyOfRange", "([BII)[B"⟩ : MethodName)
abbrev own_y27 : MethodName := (⟨"java/lang/String", "<init>", "(Ljava/lang/AbstractStringBuilder;Ljava/lang/Void;)V"⟩ : MethodName)
abbrev own_y28 : MethodName := (⟨"java/lang/String", "<init>", "(Ljava/lang/StringBuilder;)V"⟩ : MethodName)
abbrev own_y29 : MethodName := (⟨"java/lang/StringBuilder", "toString", "()Ljava/lang/String;"⟩ : MethodName)
abbrev own_y30 : MethodName := (⟨"com/example/durable_cron/durablecron/store/RequestOutcomeAnsweredPinLaw", "put", "([CIJIIJ)V"⟩ : MethodName)
abbrev own_y31 : MethodName := (⟨"com/example/durable_cron/durablecron/store/RequestOutcomeAnsweredPinLaw", "expectedFailure", "(I)Ljava/lang/String;"⟩ : MethodName)
abbrev own_y32 : MethodName := (⟨"java/lang/String", "<init>", "([C)V"⟩ : MethodName)
abbrev own_y33 : MethodName := (⟨"java/lang/Number", "<init>", "()V"⟩ : MethodName)
abbrev own_y34 : MethodName := (⟨"java/lang/Integer", "<init>", "(I)V"⟩ : MethodName)
abbrev own_y35 : MethodName := (⟨"java/lang/Integer", "intValue", "()I"⟩ : MethodName)
abbrev own_y36 : MethodName := (⟨"java/lang/Integer", "valueOf", "(I)Ljava/lang/Integer;"⟩ : MethodName)
abbrev own_y37 : MethodName := (⟨"com/example/durable_cron/durablecron/store/RequestOutcome", "isSuccess", "(I)Z"⟩ : MethodName)
abbrev own_y38 : MethodName := (⟨"com/example/durable_cron/durablecron/store/RequestOutcome", "getStatusCode", "()Ljava/lang/Integer;"⟩ : MethodName)
abbrev own_y39 : MethodName := (⟨"com/example/durable_cron/durablecron/store/RequestOutcome", "getFailure", "()Ljava/lang/String;"⟩ : MethodName)
abbrev own_y40 : MethodName := (⟨"com/example/durable_cron/durablecron/store/RequestOutcome", "<init>", "(Ljava/lang/Integer;Ljava/lang/String;)V"⟩ : MethodName)
abbrev own_y41 : MethodName := (⟨"com/example/durable_cron/durablecron/store/RequestOutcome", "succeeded", "()Z"⟩ : MethodName)
abbrev own_y42 : MethodName := (⟨"com/example/durable_cron/durablecron/store/RequestOutcome", "answered", "(I)Lcom/example/durable_cron/durablecron/store/RequestOutcome;"⟩ : MethodName)
abbrev own_y43 : MethodName := (⟨"java/lang/String", "equals", "(Ljava/lang/Object;)Z"⟩ : MethodName)
abbrev own_y44 : MethodName := (⟨"java/lang/String", "isEmpty", "()Z"⟩ : MethodName)
def own_r24 : Room := { frames := 0, cells := 0, slots := 0, locals := 0 }
def own_Q24 (Z : State) (sv ix : Int32) (buf : Addr) (kb : ClassId) (bs : List Int32) (pp : Nat) (d1 d2 : Addr) (kd1 kd2 : ClassId) (h0 : Heap) (n0 : Nat) : Option Value → Heap → List Loc → Prop := fun v h L => ∃ z : Int32, v = some (.int z) ∧ Fr n0 L ∧ Keep h0 h [buf] ∧ Arv Z h buf kb .byte (34 : Int32) ((own_fin sv pp bs).map Value.int) (.int 0)
theorem own_rm24 (l : Launch) (Z : State) (a0 : Array Value) (hw : own_W a0 Z) (sv ix : Int32) (buf : Addr) (kb : ClassId) (bs : List Int32) (pp : Nat) (d1 d2 : Addr) (kd1 kd2 : ClassId) (h0 : Heap) (n0 : Nat) (Z0 : n0 ≤ h0.size) (O0 : Old Z n0 h0) (V_b : Arv Z h0 buf kb .byte (34 : Int32) (bs.map Value.int) (.int 0)) (g_b : n0 ≤ buf) (hbl : bs.length = 34) (hix : ix.toInt = (pp : Int)) (hpp : own_nd (own_n sv) + own_sg sv ≤ pp) (hp34 : pp ≤ 34) (S_o : Sta Z Z.heap "java/lang/Integer" "DigitOnes" "[B" (.ref d1)) (S_t : Sta Z Z.heap "java/lang/Integer" "DigitTens" "[B" (.ref d2)) (V_o : Arv Z Z.heap d1 kd1 .byte (100 : Int32) (own_tab1.map Value.int) (.int 0)) (V_t : Arv Z Z.heap d2 kd2 .byte (100 : Int32) (own_tab2.map Value.int) (.int 0)) :
  own_MF l Z own_y0 (Jvm.Cond.code own_y0 jdk_33_method_12_code 7 (some .int)) [] own_r24 #[(.int sv), (.int ix), (.ref buf)] h0 (own_Q24 Z sv ix buf kb bs pp d1 d2 kd1 kd2 h0 n0) := by
 refine own_open (plainFor_of_name own_pn0) hisR (Ls := #[vi sv, vi ix, vr buf, .unset, .unset, .unset, .unset]) ?_
 intro p e s m below meth c s₁ Bd hZ hx hby hml hown X0 e0
 have N0 := Fr.nil n0
 have Jt : ∀ (u3 u4 : Slot) (ic cp ng : Int32) (hh : Heap), cp.toInt = ((pp - own_nd (own_n sv) : Nat) : Int) → Arv Z hh buf kb .byte (34 : Int32) ((own_wr sv pp (own_nd (own_n sv)) bs).map Value.int) (.int 0) → Keep h0 hh [buf] → Old Z n0 hh → n0 ≤ hh.size → ((ng = (1 : Int32) ∧ sv < (0 : Int32)) ∨ (ng = (0 : Int32) ∧ ¬ sv < (0 : Int32))) → ∀ (T : State) (locs : List Loc), Stand p l e own_r24 s m #[(.int sv), (.int ix), (.ref buf)] below meth c T locs 0 0 → Fr n0 locs → T.heap = hh → own_Go p e below (own_K s (own_Q24 Z sv ix buf kb bs pp d1 d2 kd1 kd2 h0 n0) own_r24.cells own_r24.slots) T (mkF m 104 #[vi ic, vi ix, vr buf, u3, u4, vi cp, vi ng] []) := by
  intro u3 u4 ic cp ng hh hcp Vj Kj Oj Zj hng Tj lj Xj Nj ej
  have hr := own_nd_r (own_n sv)
  refine own_st (T' := Tj) (g' := (mkF m 106 #[vi ic, vi ix, vr buf, u3, u4, vi cp, vi ng] [(.int ng)])) (fun t k => ?_) ?_
  ·refine XS.iload Xj.here hx rfl (hb hby own_d24_104) rfl ?_
   exact k
  by_cases hg : ng = (0 : Int32)
  ·have hs : ¬ sv < (0 : Int32) := by rcases hng with q | q; exact absurd (hg.symm.trans q.1) (by decide); exact q.2
   refine own_st (T' := Tj) (g' := (mkF m 120 #[vi ic, vi ix, vr buf, u3, u4, vi cp, vi ng] [(.int cp)])) (fun t k => ?_) ?_
   ·refine XS.ifYes Xj.here hx rfl (pc0 := 106) (pc' := 118) rfl (hb hby own_d24_106) rfl ((if0 _ _).trans (teq hg).1) (by decide) (by decide) ?_
    refine XS.iload Xj.here hx rfl (hb hby own_d24_118) rfl ?_
    exact k
   exact own_retI Xj hx Bd (hb hby own_d24_120) ej (⟨_, rfl, Nj, Kj, by rw [own_fin, if_neg hs]; exact Vj⟩) (by decide) (by decide)
  ·have hs : sv < (0 : Int32) := by rcases hng with q | q; exact q.2; exact absurd q.1 hg
   have hsg : own_sg sv = 1 := if_pos hs
   refine own_st (T' := Tj) (g' := (mkF m 117 #[vi ic, vi ix, vr buf, u3, u4, vi (cp + (-1 : Int32)), vi ng] [(.int 45), (.int (cp + (-1 : Int32))), (.ref buf)])) (fun t k => ?_) ?_
   ·refine XS.ifNo Xj.here hx rfl (hb hby own_d24_106) rfl ((if0 _ _).trans (feq hg).1) ?_
    refine XS.aloadN Xj.here hx rfl (hb hby own_d24_109) rfl rfl ?_
    refine XS.iinc Xj.here hx rfl (hb hby own_d24_110) rfl (l' := #[vi ic, vi ix, vr buf, u3, u4, vi (cp + (-1 : Int32)), vi ng]) rfl ?_
    refine XS.iload Xj.here hx rfl (hb hby own_d24_113) rfl ?_
    refine XS.bipush Xj.here hx rfl (hb hby own_d24_115) ?_
    exact k
   obtain ⟨cl1, Ar1, q1, S1, M1, H1, G1⟩ := id Vj
   obtain ⟨T2, h2, X2, e2, W2, st2⟩ := stB Xj hx hZ ej Ar1 (j := (cp + (-1 : Int32))) (inb_of S1 (own_in34 (own_dec1 hcp (by omega)) (by omega))) (g := (mkF m 117 #[vi ic, vi ix, vr buf, u3, u4, vi (cp + (-1 : Int32)), vi ng] [(.int 45), (.int (cp + (-1 : Int32))), (.ref buf)])) rfl rfl (hb hby own_d24_117)
   have N2 := Fr.snoc X2 Nj g_b
   have K2 : Keep h0 h2 [buf] := Kj.wr W2 (Or.inl (List.mem_of_getElem? (i := 0) rfl))
   have Z2 : n0 ≤ h2.size := Nat.le_trans Zj (Keep.of_wr W2).1
   have O2 := Oj.wr W2 g_b
   have fw2 := (show Arv Z h2 buf kb .byte (34 : Int32) (((own_wr sv pp (own_nd (own_n sv)) bs).set ((cp + (-1 : Int32))).toNatClampNeg (45 : Int32)).map Value.int) (.int 0) by have q := Arv.set Ar1 q1 S1 M1 H1 G1 (fits_nar_byte _) W2 (((cp + (-1 : Int32))).toNatClampNeg) rfl (by rw [List.length_map, own_wr_len, hbl, own_clamp (own_dec1 hcp (by omega))]; omega); rw [own_lset] at q; exact q)
   refine own_st (T' := T2) (g' := (mkF m 118 #[vi ic, vi ix, vr buf, u3, u4, vi (cp + (-1 : Int32)), vi ng] [])) st2 ?_
   refine own_st (T' := T2) (g' := (mkF m 120 #[vi ic, vi ix, vr buf, u3, u4, vi (cp + (-1 : Int32)), vi ng] [(.int (cp + (-1 : Int32)))])) (fun t k => ?_) ?_
   ·refine XS.iload X2.here hx rfl (hb hby own_d24_118) rfl ?_
    exact k
   exact own_retI X2 hx Bd (hb hby own_d24_120) e2 (⟨_, rfl, N2, K2, by rw [own_fin, if_pos hs, show pp - 1 - own_nd (own_n sv) = pp - own_nd (own_n sv) - 1 from Nat.sub_right_comm _ _ _, ← own_clamp (own_dec1 hcp (by omega))]; exact fw2⟩) (by decide) (by decide)
 have J8 : ∀ (a3 a4 : Int32) (ic cp ng : Int32) (hh : Heap), ic.toInt = -((own_n sv / 10 ^ 8 : Nat) : Int) → 1 ≤ own_n sv / 10 ^ 8 → cp.toInt = ((pp - 8 : Nat) : Int) → Arv Z hh buf kb .byte (34 : Int32) ((own_wr sv pp 8 bs).map Value.int) (.int 0) → Keep h0 hh [buf] → Old Z n0 hh → n0 ≤ hh.size → ((ng = (1 : Int32) ∧ sv < (0 : Int32)) ∨ (ng = (0 : Int32) ∧ ¬ sv < (0 : Int32))) → ∀ (T : State) (locs : List Loc), Stand p l e own_r24 s m #[(.int sv), (.int ix), (.ref buf)] below meth c T locs 0 0 → Fr n0 locs → T.heap = hh → own_Go p e below (own_K s (own_Q24 Z sv ix buf kb bs pp d1 d2 kd1 kd2 h0 n0) own_r24.cells own_r24.slots) T (mkF m 22 #[vi ic, vi ix, vr buf, vi a3, vi a4, vi cp, vi ng] []) := by
  intro a3 a4 ic cp ng hh hi hge hcp Vj Kj Oj Zj hng Tj lj Xj Nj ej
  have hdl : 9 ≤ own_nd (own_n sv) := own_nd_d8 hge
  have hc1 : (cp + (-1 : Int32)).toInt = ((pp - 8 - 1 : Nat) : Int) := own_dec1 hcp (by omega)
  refine own_st (T' := Tj) (g' := (mkF m 25 #[vi ic, vi ix, vr buf, vi a3, vi a4, vi cp, vi ng] [(.int (-100)), (.int ic)])) (fun t k => ?_) ?_
  ·refine XS.iloadN Xj.here hx rfl (hb hby own_d24_22) rfl ?_
   refine XS.bipush Xj.here hx rfl (hb hby own_d24_23) ?_
   exact k
  by_cases hgt : (-100 : Int32) < ic
  ·have hlt := own_lt100 hi hgt
   refine own_st (T' := Tj) (g' := (mkF m 78 #[vi ic, vi ix, vr buf, vi a3, vi a4, vi (cp + (-1 : Int32)), vi ng] [(.int (cp + (-1 : Int32))), (.ref buf)])) (fun t k => ?_) ?_
   ·refine XS.icmpYes Xj.here hx rfl (pc0 := 25) (pc' := 72) rfl (hb hby own_d24_25) rfl (tlt hgt).2.2.1 (by decide) (by decide) ?_
    refine XS.aloadN Xj.here hx rfl (hb hby own_d24_72) rfl rfl ?_
    refine XS.iinc Xj.here hx rfl (hb hby own_d24_73) rfl (l' := #[vi ic, vi ix, vr buf, vi a3, vi a4, vi (cp + (-1 : Int32)), vi ng]) rfl ?_
    refine XS.iload Xj.here hx rfl (hb hby own_d24_76) rfl ?_
    exact k
   have f3 := S_o.ext Oj.2
   obtain ⟨T4, X4, e4, st4⟩ := getS2 Xj hx hZ hown (host := "") (Or.inl (own_w hw 137 rfl)) Via.refl ej f3 (g := (mkF m 78 #[vi ic, vi ix, vr buf, vi a3, vi a4, vi (cp + (-1 : Int32)), vi ng] [(.int (cp + (-1 : Int32))), (.ref buf)])) rfl (hb hby own_d24_78)
   refine own_st (T' := T4) (g' := (mkF m 81 #[vi ic, vi ix, vr buf, vi a3, vi a4, vi (cp + (-1 : Int32)), vi ng] [(.ref d1), (.int (cp + (-1 : Int32))), (.ref buf)])) st4 ?_
   refine own_st (T' := T4) (g' := (mkF m 83 #[vi ic, vi ix, vr buf, vi a3, vi a4, vi (cp + (-1 : Int32)), vi ng] [(.int (-ic)), (.ref d1), (.int (cp + (-1 : Int32))), (.ref buf)])) (fun t k => ?_) ?_
   ·refine XS.iloadN X4.here hx rfl (hb hby own_d24_81) rfl ?_
    refine XS.ineg X4.here hx rfl (hb hby own_d24_82) rfl ?_
    exact k
   have f5 := V_o.ext Oj.2
   obtain ⟨cl6, Ar6, q6, S6, M6, H6, G6⟩ := id f5
   refine own_st (T' := T4) (g' := (mkF m 84 #[vi ic, vi ix, vr buf, vi a3, vi a4, vi (cp + (-1 : Int32)), vi ng] [(.int (own_dig sv 8)), (.int (cp + (-1 : Int32))), (.ref buf)])) (fun t k => ?_) ?_
   ·refine X4.baloadBytes hx (j := (-ic)) (v := (.int (own_dig sv 8))) (by rw [e4]; exact Ar6.1) (State.isArrayOf_alike hZ.alike Ar6.2.1) Ar6.2.2 (inb_of S6 (own_in100 (own_ng hi hgt))) (Has.at H6 (inb_of S6 (own_in100 (own_ng hi hgt))) ((own_lget own_tab1 ((-ic)).toNatClampNeg).trans (congrArg Value.int (own_rd1 (own_ng hi hgt))))) (g := (mkF m 83 #[vi ic, vi ix, vr buf, vi a3, vi a4, vi (cp + (-1 : Int32)), vi ng] [(.int (-ic)), (.ref d1), (.int (cp + (-1 : Int32))), (.ref buf)])) rfl rfl (hb hby own_d24_83) _ ?_
    exact k
   obtain ⟨cl7, Ar7, q7, S7, M7, H7, G7⟩ := id Vj
   obtain ⟨T8, h8, X8, e8, W8, st8⟩ := stB X4 hx hZ e4 Ar7 (j := (cp + (-1 : Int32))) (inb_of S7 (own_in34 hc1 (by omega))) (g := (mkF m 84 #[vi ic, vi ix, vr buf, vi a3, vi a4, vi (cp + (-1 : Int32)), vi ng] [(.int (own_dig sv 8)), (.int (cp + (-1 : Int32))), (.ref buf)])) rfl rfl (hb hby own_d24_84)
   have N8 := Fr.snoc X8 Nj g_b
   have K8 : Keep h0 h8 [buf] := Kj.wr W8 (Or.inl (List.mem_of_getElem? (i := 0) rfl))
   have Z8 : n0 ≤ h8.size := Nat.le_trans Zj (Keep.of_wr W8).1
   have O8 := Oj.wr W8 g_b
   have fw8 := (show Arv Z h8 buf kb .byte (34 : Int32) (((own_wr sv pp 8 bs).set ((cp + (-1 : Int32))).toNatClampNeg (own_dig sv 8)).map Value.int) (.int 0) by have q := Arv.set Ar7 q7 S7 M7 H7 G7 (fits_nar_byte _) W8 (((cp + (-1 : Int32))).toNatClampNeg) rfl (by rw [List.length_map, own_wr_len, hbl, own_clamp hc1]; omega); rw [own_lset, own_dig_id sv 8] at q; exact q)
   rw [own_wr_s hc1] at fw8
   refine own_st (T' := T8) (g' := (mkF m 85 #[vi ic, vi ix, vr buf, vi a3, vi a4, vi (cp + (-1 : Int32)), vi ng] [])) st8 ?_
   refine own_st (T' := T8) (g' := (mkF m 88 #[vi ic, vi ix, vr buf, vi a3, vi a4, vi (cp + (-1 : Int32)), vi ng] [(.int (-9)), (.int ic)])) (fun t k => ?_) ?_
   ·refine XS.iloadN X8.here hx rfl (hb hby own_d24_85) rfl ?_
    refine XS.bipush X8.here hx rfl (hb hby own_d24_86) ?_
    exact k
   by_cases h9 : ic < (-9 : Int32)
   ·have hD : own_nd (own_n sv) = 10 := own_nd_b8 (own_lt9 hi h9) hlt
    have hc2 : ((cp + (-1 : Int32)) + (-1 : Int32)).toInt = ((pp - 9 - 1 : Nat) : Int) := by have q := own_dec1 hc1 (by omega); omega
    refine own_st (T' := T8) (g' := (mkF m 97 #[vi ic, vi ix, vr buf, vi a3, vi a4, vi ((cp + (-1 : Int32)) + (-1 : Int32)), vi ng] [(.int ((cp + (-1 : Int32)) + (-1 : Int32))), (.ref buf)])) (fun t k => ?_) ?_
    ·refine XS.icmpNo X8.here hx rfl (hb hby own_d24_88) rfl (tlt h9).2.1 ?_
     refine XS.aloadN X8.here hx rfl (hb hby own_d24_91) rfl rfl ?_
     refine XS.iinc X8.here hx rfl (hb hby own_d24_92) rfl (l' := #[vi ic, vi ix, vr buf, vi a3, vi a4, vi ((cp + (-1 : Int32)) + (-1 : Int32)), vi ng]) rfl ?_
     refine XS.iload X8.here hx rfl (hb hby own_d24_95) rfl ?_
     exact k
    have f9 := S_t.ext O8.2
    obtain ⟨T10, X10, e10, st10⟩ := getS2 X8 hx hZ hown (host := "") (Or.inl (own_w hw 253 rfl)) Via.refl e8 f9 (g := (mkF m 97 #[vi ic, vi ix, vr buf, vi a3, vi a4, vi ((cp + (-1 : Int32)) + (-1 : Int32)), vi ng] [(.int ((cp + (-1 : Int32)) + (-1 : Int32))), (.ref buf)])) rfl (hb hby own_d24_97)
    refine own_st (T' := T10) (g' := (mkF m 100 #[vi ic, vi ix, vr buf, vi a3, vi a4, vi ((cp + (-1 : Int32)) + (-1 : Int32)), vi ng] [(.ref d2), (.int ((cp + (-1 : Int32)) + (-1 : Int32))), (.ref buf)])) st10 ?_
    refine own_st (T' := T10) (g' := (mkF m 102 #[vi ic, vi ix, vr buf, vi a3, vi a4, vi ((cp + (-1 : Int32)) + (-1 : Int32)), vi ng] [(.int (-ic)), (.ref d2), (.int ((cp + (-1 : Int32)) + (-1 : Int32))), (.ref buf)])) (fun t k => ?_) ?_
    ·refine XS.iloadN X10.here hx rfl (hb hby own_d24_100) rfl ?_
     refine XS.ineg X10.here hx rfl (hb hby own_d24_101) rfl ?_
     exact k
    have f11 := V_t.ext O8.2
    obtain ⟨cl12, Ar12, q12, S12, M12, H12, G12⟩ := id f11
    refine own_st (T' := T10) (g' := (mkF m 103 #[vi ic, vi ix, vr buf, vi a3, vi a4, vi ((cp + (-1 : Int32)) + (-1 : Int32)), vi ng] [(.int (own_dig sv 9)), (.int ((cp + (-1 : Int32)) + (-1 : Int32))), (.ref buf)])) (fun t k => ?_) ?_
    ·refine X10.baloadBytes hx (j := (-ic)) (v := (.int (own_dig sv 9))) (by rw [e10]; exact Ar12.1) (State.isArrayOf_alike hZ.alike Ar12.2.1) Ar12.2.2 (inb_of S12 (own_in100 (own_ng hi hgt))) (Has.at H12 (inb_of S12 (own_in100 (own_ng hi hgt))) ((own_lget own_tab2 ((-ic)).toNatClampNeg).trans (congrArg Value.int (own_rd2 (own_ng hi hgt))))) (g := (mkF m 102 #[vi ic, vi ix, vr buf, vi a3, vi a4, vi ((cp + (-1 : Int32)) + (-1 : Int32)), vi ng] [(.int (-ic)), (.ref d2), (.int ((cp + (-1 : Int32)) + (-1 : Int32))), (.ref buf)])) rfl rfl (hb hby own_d24_102) _ ?_
     exact k
    obtain ⟨cl13, Ar13, q13, S13, M13, H13, G13⟩ := id fw8
    obtain ⟨T14, h14, X14, e14, W14, st14⟩ := stB X10 hx hZ e10 Ar13 (j := ((cp + (-1 : Int32)) + (-1 : Int32))) (inb_of S13 (own_in34 hc2 (by omega))) (g := (mkF m 103 #[vi ic, vi ix, vr buf, vi a3, vi a4, vi ((cp + (-1 : Int32)) + (-1 : Int32)), vi ng] [(.int (own_dig sv 9)), (.int ((cp + (-1 : Int32)) + (-1 : Int32))), (.ref buf)])) rfl rfl (hb hby own_d24_103)
    have N14 := Fr.snoc X14 N8 g_b
    have K14 : Keep h0 h14 [buf] := K8.wr W14 (Or.inl (List.mem_of_getElem? (i := 0) rfl))
    have Z14 : n0 ≤ h14.size := Nat.le_trans Z8 (Keep.of_wr W14).1
    have O14 := O8.wr W14 g_b
    have fw14 := (show Arv Z h14 buf kb .byte (34 : Int32) (((own_wr sv pp 9 bs).set (((cp + (-1 : Int32)) + (-1 : Int32))).toNatClampNeg (own_dig sv 9)).map Value.int) (.int 0) by have q := Arv.set Ar13 q13 S13 M13 H13 G13 (fits_nar_byte _) W14 ((((cp + (-1 : Int32)) + (-1 : Int32))).toNatClampNeg) rfl (by rw [List.length_map, own_wr_len, hbl, own_clamp hc2]; omega); rw [own_lset, own_dig_id sv 9] at q; exact q)
    rw [own_wr_s hc2] at fw14
    refine own_st (T' := T14) (g' := (mkF m 104 #[vi ic, vi ix, vr buf, vi a3, vi a4, vi ((cp + (-1 : Int32)) + (-1 : Int32)), vi ng] [])) st14 ?_
    exact Jt (vi a3) (vi a4) ic ((cp + (-1 : Int32)) + (-1 : Int32)) ng _ (by rw [hD]; exact hc2) (by rw [hD]; exact fw14) K14 O14 Z14 hng T14 _ X14 N14 e14
   ·have hD : own_nd (own_n sv) = 9 := own_nd_a8 hge (own_ge9 hi h9)
    refine own_st (T' := T8) (g' := (mkF m 104 #[vi ic, vi ix, vr buf, vi a3, vi a4, vi (cp + (-1 : Int32)), vi ng] [])) (fun t k => ?_) ?_
    ·refine XS.icmpYes X8.here hx rfl (pc0 := 88) (pc' := 104) rfl (hb hby own_d24_88) rfl (flt h9).2.1 (by decide) (by decide) ?_
     exact k
    exact Jt (vi a3) (vi a4) ic (cp + (-1 : Int32)) ng _ (by rw [hD]; exact hc1) (by rw [hD]; exact fw8) K8 O8 Z8 hng T8 _ X8 N8 e8
  ·exact absurd (own_no8 hi) hgt
 have J6 : ∀ (a3 a4 : Int32) (ic cp ng : Int32) (hh : Heap), ic.toInt = -((own_n sv / 10 ^ 6 : Nat) : Int) → 1 ≤ own_n sv / 10 ^ 6 → cp.toInt = ((pp - 6 : Nat) : Int) → Arv Z hh buf kb .byte (34 : Int32) ((own_wr sv pp 6 bs).map Value.int) (.int 0) → Keep h0 hh [buf] → Old Z n0 hh → n0 ≤ hh.size → ((ng = (1 : Int32) ∧ sv < (0 : Int32)) ∨ (ng = (0 : Int32) ∧ ¬ sv < (0 : Int32))) → ∀ (T : State) (locs : List Loc), Stand p l e own_r24 s m #[(.int sv), (.int ix), (.ref buf)] below meth c T locs 0 0 → Fr n0 locs → T.heap = hh → own_Go p e below (own_K s (own_Q24 Z sv ix buf kb bs pp d1 d2 kd1 kd2 h0 n0) own_r24.cells own_r24.slots) T (mkF m 22 #[vi ic, vi ix, vr buf, vi a3, vi a4, vi cp, vi ng] []) := by
  intro a3 a4 ic cp ng hh hi hge hcp Vj Kj Oj Zj hng Tj lj Xj Nj ej
  have hdl : 7 ≤ own_nd (own_n sv) := own_nd_d6 hge
  have hc1 : (cp + (-1 : Int32)).toInt = ((pp - 6 - 1 : Nat) : Int) := own_dec1 hcp (by omega)
  refine own_st (T' := Tj) (g' := (mkF m 25 #[vi ic, vi ix, vr buf, vi a3, vi a4, vi cp, vi ng] [(.int (-100)), (.int ic)])) (fun t k => ?_) ?_
  ·refine XS.iloadN Xj.here hx rfl (hb hby own_d24_22) rfl ?_
   refine XS.bipush Xj.here hx rfl (hb hby own_d24_23) ?_
   exact k
  by_cases hgt : (-100 : Int32) < ic
  ·have hlt := own_lt100 hi hgt
   refine own_st (T' := Tj) (g' := (mkF m 78 #[vi ic, vi ix, vr buf, vi a3, vi a4, vi (cp + (-1 : Int32)), vi ng] [(.int (cp + (-1 : Int32))), (.ref buf)])) (fun t k => ?_) ?_
   ·refine XS.icmpYes Xj.here hx rfl (pc0 := 25) (pc' := 72) rfl (hb hby own_d24_25) rfl (tlt hgt).2.2.1 (by decide) (by decide) ?_
    refine XS.aloadN Xj.here hx rfl (hb hby own_d24_72) rfl rfl ?_
    refine XS.iinc Xj.here hx rfl (hb hby own_d24_73) rfl (l' := #[vi ic, vi ix, vr buf, vi a3, vi a4, vi (cp + (-1 : Int32)), vi ng]) rfl ?_
    refine XS.iload Xj.here hx rfl (hb hby own_d24_76) rfl ?_
    exact k
   have f15 := S_o.ext Oj.2
   obtain ⟨T16, X16, e16, st16⟩ := getS2 Xj hx hZ hown (host := "") (Or.inl (own_w hw 137 rfl)) Via.refl ej f15 (g := (mkF m 78 #[vi ic, vi ix, vr buf, vi a3, vi a4, vi (cp + (-1 : Int32)), vi ng] [(.int (cp + (-1 : Int32))), (.ref buf)])) rfl (hb hby own_d24_78)
   refine own_st (T' := T16) (g' := (mkF m 81 #[vi ic, vi ix, vr buf, vi a3, vi a4, vi (cp + (-1 : Int32)), vi ng] [(.ref d1), (.int (cp + (-1 : Int32))), (.ref buf)])) st16 ?_
   refine own_st (T' := T16) (g' := (mkF m 83 #[vi ic, vi ix, vr buf, vi a3, vi a4, vi (cp + (-1 : Int32)), vi ng] [(.int (-ic)), (.ref d1), (.int (cp + (-1 : Int32))), (.ref buf)])) (fun t k => ?_) ?_
   ·refine XS.iloadN X16.here hx rfl (hb hby own_d24_81) rfl ?_
    refine XS.ineg X16.here hx rfl (hb hby own_d24_82) rfl ?_
    exact k
   have f17 := V_o.ext Oj.2
   obtain ⟨cl18, Ar18, q18, S18, M18, H18, G18⟩ := id f17
   refine own_st (T' := T16) (g' := (mkF m 84 #[vi ic, vi ix, vr buf, vi a3, vi a4, vi (cp + (-1 : Int32)), vi ng] [(.int (own_dig sv 6)), (.int (cp + (-1 : Int32))), (.ref buf)])) (fun t k => ?_) ?_
   ·refine X16.baloadBytes hx (j := (-ic)) (v := (.int (own_dig sv 6))) (by rw [e16]; exact Ar18.1) (State.isArrayOf_alike hZ.alike Ar18.2.1) Ar18.2.2 (inb_of S18 (own_in100 (own_ng hi hgt))) (Has.at H18 (inb_of S18 (own_in100 (own_ng hi hgt))) ((own_lget own_tab1 ((-ic)).toNatClampNeg).trans (congrArg Value.int (own_rd1 (own_ng hi hgt))))) (g := (mkF m 83 #[vi ic, vi ix, vr buf, vi a3, vi a4, vi (cp + (-1 : Int32)), vi ng] [(.int (-ic)), (.ref d1), (.int (cp + (-1 : Int32))), (.ref buf)])) rfl rfl (hb hby own_d24_83) _ ?_
    exact k
   obtain ⟨cl19, Ar19, q19, S19, M19, H19, G19⟩ := id Vj
   obtain ⟨T20, h20, X20, e20, W20, st20⟩ := stB X16 hx hZ e16 Ar19 (j := (cp + (-1 : Int32))) (inb_of S19 (own_in34 hc1 (by omega))) (g := (mkF m 84 #[vi ic, vi ix, vr buf, vi a3, vi a4, vi (cp + (-1 : Int32)), vi ng] [(.int (own_dig sv 6)), (.int (cp + (-1 : Int32))), (.ref buf)])) rfl rfl (hb hby own_d24_84)
   have N20 := Fr.snoc X20 Nj g_b
   have K20 : Keep h0 h20 [buf] := Kj.wr W20 (Or.inl (List.mem_of_getElem? (i := 0) rfl))
   have Z20 : n0 ≤ h20.size := Nat.le_trans Zj (Keep.of_wr W20).1
   have O20 := Oj.wr W20 g_b
   have fw20 := (show Arv Z h20 buf kb .byte (34 : Int32) (((own_wr sv pp 6 bs).set ((cp + (-1 : Int32))).toNatClampNeg (own_dig sv 6)).map Value.int) (.int 0) by have q := Arv.set Ar19 q19 S19 M19 H19 G19 (fits_nar_byte _) W20 (((cp + (-1 : Int32))).toNatClampNeg) rfl (by rw [List.length_map, own_wr_len, hbl, own_clamp hc1]; omega); rw [own_lset, own_dig_id sv 6] at q; exact q)
   rw [own_wr_s hc1] at fw20
   refine own_st (T' := T20) (g' := (mkF m 85 #[vi ic, vi ix, vr buf, vi a3, vi a4, vi (cp + (-1 : Int32)), vi ng] [])) st20 ?_
   refine own_st (T' := T20) (g' := (mkF m 88 #[vi ic, vi ix, vr buf, vi a3, vi a4, vi (cp + (-1 : Int32)), vi ng] [(.int (-9)), (.int ic)])) (fun t k => ?_) ?_
   ·refine XS.iloadN X20.here hx rfl (hb hby own_d24_85) rfl ?_
    refine XS.bipush X20.here hx rfl (hb hby own_d24_86) ?_
    exact k
   by_cases h9 : ic < (-9 : Int32)
   ·have hD : own_nd (own_n sv) = 8 := own_nd_b6 (own_lt9 hi h9) hlt
    have hc2 : ((cp + (-1 : Int32)) + (-1 : Int32)).toInt = ((pp - 7 - 1 : Nat) : Int) := by have q := own_dec1 hc1 (by omega); omega
    refine own_st (T' := T20) (g' := (mkF m 97 #[vi ic, vi ix, vr buf, vi a3, vi a4, vi ((cp + (-1 : Int32)) + (-1 : Int32)), vi ng] [(.int ((cp + (-1 : Int32)) + (-1 : Int32))), (.ref buf)])) (fun t k => ?_) ?_
    ·refine XS.icmpNo X20.here hx rfl (hb hby own_d24_88) rfl (tlt h9).2.1 ?_
     refine XS.aloadN X20.here hx rfl (hb hby own_d24_91) rfl rfl ?_
     refine XS.iinc X20.here hx rfl (hb hby own_d24_92) rfl (l' := #[vi ic, vi ix, vr buf, vi a3, vi a4, vi ((cp + (-1 : Int32)) + (-1 : Int32)), vi ng]) rfl ?_
     refine XS.iload X20.here hx rfl (hb hby own_d24_95) rfl ?_
     exact k
    have f21 := S_t.ext O20.2
    obtain ⟨T22, X22, e22, st22⟩ := getS2 X20 hx hZ hown (host := "") (Or.inl (own_w hw 253 rfl)) Via.refl e20 f21 (g := (mkF m 97 #[vi ic, vi ix, vr buf, vi a3, vi a4, vi ((cp + (-1 : Int32)) + (-1 : Int32)), vi ng] [(.int ((cp + (-1 : Int32)) + (-1 : Int32))), (.ref buf)])) rfl (hb hby own_d24_97)
    refine own_st (T' := T22) (g' := (mkF m 100 #[vi ic, vi ix, vr buf, vi a3, vi a4, vi ((cp + (-1 : Int32)) + (-1 : Int32)), vi ng] [(.ref d2), (.int ((cp + (-1 : Int32)) + (-1 : Int32))), (.ref buf)])) st22 ?_
    refine own_st (T' := T22) (g' := (mkF m 102 #[vi ic, vi ix, vr buf, vi a3, vi a4, vi ((cp + (-1 : Int32)) + (-1 : Int32)), vi ng] [(.int (-ic)), (.ref d2), (.int ((cp + (-1 : Int32)) + (-1 : Int32))), (.ref buf)])) (fun t k => ?_) ?_
    ·refine XS.iloadN X22.here hx rfl (hb hby own_d24_100) rfl ?_
     refine XS.ineg X22.here hx rfl (hb hby own_d24_101) rfl ?_
     exact k
    have f23 := V_t.ext O20.2
    obtain ⟨cl24, Ar24, q24, S24, M24, H24, G24⟩ := id f23
    refine own_st (T' := T22) (g' := (mkF m 103 #[vi ic, vi ix, vr buf, vi a3, vi a4, vi ((cp + (-1 : Int32)) + (-1 : Int32)), vi ng] [(.int (own_dig sv 7)), (.int ((cp + (-1 : Int32)) + (-1 : Int32))), (.ref buf)])) (fun t k => ?_) ?_
    ·refine X22.baloadBytes hx (j := (-ic)) (v := (.int (own_dig sv 7))) (by rw [e22]; exact Ar24.1) (State.isArrayOf_alike hZ.alike Ar24.2.1) Ar24.2.2 (inb_of S24 (own_in100 (own_ng hi hgt))) (Has.at H24 (inb_of S24 (own_in100 (own_ng hi hgt))) ((own_lget own_tab2 ((-ic)).toNatClampNeg).trans (congrArg Value.int (own_rd2 (own_ng hi hgt))))) (g := (mkF m 102 #[vi ic, vi ix, vr buf, vi a3, vi a4, vi ((cp + (-1 : Int32)) + (-1 : Int32)), vi ng] [(.int (-ic)), (.ref d2), (.int ((cp + (-1 : Int32)) + (-1 : Int32))), (.ref buf)])) rfl rfl (hb hby own_d24_102) _ ?_
     exact k
    obtain ⟨cl25, Ar25, q25, S25, M25, H25, G25⟩ := id fw20
    obtain ⟨T26, h26, X26, e26, W26, st26⟩ := stB X22 hx hZ e22 Ar25 (j := ((cp + (-1 : Int32)) + (-1 : Int32))) (inb_of S25 (own_in34 hc2 (by omega))) (g := (mkF m 103 #[vi ic, vi ix, vr buf, vi a3, vi a4, vi ((cp + (-1 : Int32)) + (-1 : Int32)), vi ng] [(.int (own_dig sv 7)), (.int ((cp + (-1 : Int32)) + (-1 : Int32))), (.ref buf)])) rfl rfl (hb hby own_d24_103)
    have N26 := Fr.snoc X26 N20 g_b
    have K26 : Keep h0 h26 [buf] := K20.wr W26 (Or.inl (List.mem_of_getElem? (i := 0) rfl))
    have Z26 : n0 ≤ h26.size := Nat.le_trans Z20 (Keep.of_wr W26).1
    have O26 := O20.wr W26 g_b
    have fw26 := (show Arv Z h26 buf kb .byte (34 : Int32) (((own_wr sv pp 7 bs).set (((cp + (-1 : Int32)) + (-1 : Int32))).toNatClampNeg (own_dig sv 7)).map Value.int) (.int 0) by have q := Arv.set Ar25 q25 S25 M25 H25 G25 (fits_nar_byte _) W26 ((((cp + (-1 : Int32)) + (-1 : Int32))).toNatClampNeg) rfl (by rw [List.length_map, own_wr_len, hbl, own_clamp hc2]; omega); rw [own_lset, own_dig_id sv 7] at q; exact q)
    rw [own_wr_s hc2] at fw26
    refine own_st (T' := T26) (g' := (mkF m 104 #[vi ic, vi ix, vr buf, vi a3, vi a4, vi ((cp + (-1 : Int32)) + (-1 : Int32)), vi ng] [])) st26 ?_
    exact Jt (vi a3) (vi a4) ic ((cp + (-1 : Int32)) + (-1 : Int32)) ng _ (by rw [hD]; exact hc2) (by rw [hD]; exact fw26) K26 O26 Z26 hng T26 _ X26 N26 e26
   ·have hD : own_nd (own_n sv) = 7 := own_nd_a6 hge (own_ge9 hi h9)
    refine own_st (T' := T20) (g' := (mkF m 104 #[vi ic, vi ix, vr buf, vi a3, vi a4, vi (cp + (-1 : Int32)), vi ng] [])) (fun t k => ?_) ?_
    ·refine XS.icmpYes X20.here hx rfl (pc0 := 88) (pc' := 104) rfl (hb hby own_d24_88) rfl (flt h9).2.1 (by decide) (by decide) ?_
     exact k
    exact Jt (vi a3) (vi a4) ic (cp + (-1 : Int32)) ng _ (by rw [hD]; exact hc1) (by rw [hD]; exact fw20) K20 O20 Z20 hng T20 _ X20 N20 e20
  ·have h100 := own_ge100 hi hgt
   have hD3 := own_nd_c6 h100
   have hc2 : ((cp + (-1 : Int32)) + (-1 : Int32)).toInt = ((pp - 7 - 1 : Nat) : Int) := by have q := own_dec1 hc1 (by omega); omega
   refine own_st (T' := Tj) (g' := (mkF m 49 #[vi (ic / (100 : Int32)), vi ix, vr buf, vi (ic / (100 : Int32)), vi (((ic / (100 : Int32)) * (100 : Int32)) - ic), vi (cp + (-1 : Int32)), vi ng] [(.int (cp + (-1 : Int32))), (.ref buf)])) (fun t k => ?_) ?_
   ·refine XS.icmpNo Xj.here hx rfl (hb hby own_d24_25) rfl (flt hgt).2.2.1 ?_
    refine XS.iloadN Xj.here hx rfl (hb hby own_d24_28) rfl ?_
    refine XS.bipush Xj.here hx rfl (hb hby own_d24_29) ?_
    refine XS.idiv Xj.here hx rfl (hb hby own_d24_31) rfl (by decide) ?_
    refine XS.istoreN Xj.here hx rfl (hb hby own_d24_32) rfl (l' := #[vi ic, vi ix, vr buf, vi (ic / (100 : Int32)), vi a4, vi cp, vi ng]) rfl ?_
    refine XS.iloadN Xj.here hx rfl (hb hby own_d24_33) rfl ?_
    refine XS.bipush Xj.here hx rfl (hb hby own_d24_34) ?_
    refine XS.imul Xj.here hx rfl (hb hby own_d24_36) rfl ?_
    refine XS.iloadN Xj.here hx rfl (hb hby own_d24_37) rfl ?_
    refine XS.isub Xj.here hx rfl (hb hby own_d24_38) rfl ?_
    refine XS.istore Xj.here hx rfl (hb hby own_d24_39) rfl (l' := #[vi ic, vi ix, vr buf, vi (ic / (100 : Int32)), vi (((ic / (100 : Int32)) * (100 : Int32)) - ic), vi cp, vi ng]) rfl ?_
    refine XS.iloadN Xj.here hx rfl (hb hby own_d24_41) rfl ?_
    refine XS.istoreN Xj.here hx rfl (hb hby own_d24_42) rfl (l' := #[vi (ic / (100 : Int32)), vi ix, vr buf, vi (ic / (100 : Int32)), vi (((ic / (100 : Int32)) * (100 : Int32)) - ic), vi cp, vi ng]) rfl ?_
    refine XS.aloadN Xj.here hx rfl (hb hby own_d24_43) rfl rfl ?_
    refine XS.iinc Xj.here hx rfl (hb hby own_d24_44) rfl (l' := #[vi (ic / (100 : Int32)), vi ix, vr buf, vi (ic / (100 : Int32)), vi (((ic / (100 : Int32)) * (100 : Int32)) - ic), vi (cp + (-1 : Int32)), vi ng]) rfl ?_
    refine XS.iload Xj.here hx rfl (hb hby own_d24_47) rfl ?_
    exact k
   have f27 := S_o.ext Oj.2
   obtain ⟨T28, X28, e28, st28⟩ := getS2 Xj hx hZ hown (host := "") (Or.inl (own_w hw 137 rfl)) Via.refl ej f27 (g := (mkF m 49 #[vi (ic / (100 : Int32)), vi ix, vr buf, vi (ic / (100 : Int32)), vi (((ic / (100 : Int32)) * (100 : Int32)) - ic), vi (cp + (-1 : Int32)), vi ng] [(.int (cp + (-1 : Int32))), (.ref buf)])) rfl (hb hby own_d24_49)
   refine own_st (T' := T28) (g' := (mkF m 52 #[vi (ic / (100 : Int32)), vi ix, vr buf, vi (ic / (100 : Int32)), vi (((ic / (100 : Int32)) * (100 : Int32)) - ic), vi (cp + (-1 : Int32)), vi ng] [(.ref d1), (.int (cp + (-1 : Int32))), (.ref buf)])) st28 ?_
   refine own_st (T' := T28) (g' := (mkF m 54 #[vi (ic / (100 : Int32)), vi ix, vr buf, vi (ic / (100 : Int32)), vi (((ic / (100 : Int32)) * (100 : Int32)) - ic), vi (cp + (-1 : Int32)), vi ng] [(.int (((ic / (100 : Int32)) * (100 : Int32)) - ic)), (.ref d1), (.int (cp + (-1 : Int32))), (.ref buf)])) (fun t k => ?_) ?_
   ·refine XS.iload X28.here hx rfl (hb hby own_d24_52) rfl ?_
    exact k
   have f29 := V_o.ext Oj.2
   obtain ⟨cl30, Ar30, q30, S30, M30, H30, G30⟩ := id f29
   refine own_st (T' := T28) (g' := (mkF m 55 #[vi (ic / (100 : Int32)), vi ix, vr buf, vi (ic / (100 : Int32)), vi (((ic / (100 : Int32)) * (100 : Int32)) - ic), vi (cp + (-1 : Int32)), vi ng] [(.int (own_dig sv 6)), (.int (cp + (-1 : Int32))), (.ref buf)])) (fun t k => ?_) ?_
   ·refine X28.baloadBytes hx (j := (((ic / (100 : Int32)) * (100 : Int32)) - ic)) (v := (.int (own_dig sv 6))) (by rw [e28]; exact Ar30.1) (State.isArrayOf_alike hZ.alike Ar30.2.1) Ar30.2.2 (inb_of S30 (own_in100 (own_rs hi))) (Has.at H30 (inb_of S30 (own_in100 (own_rs hi))) ((own_lget own_tab1 ((((ic / (100 : Int32)) * (100 : Int32)) - ic)).toNatClampNeg).trans (congrArg Value.int (own_rd1 (own_rs hi))))) (g := (mkF m 54 #[vi (ic / (100 : Int32)), vi ix, vr buf, vi (ic / (100 : Int32)), vi (((ic / (100 : Int32)) * (100 : Int32)) - ic), vi (cp + (-1 : Int32)), vi ng] [(.int (((ic / (100 : Int32)) * (100 : Int32)) - ic)), (.ref d1), (.int (cp + (-1 : Int32))), (.ref buf)])) rfl rfl (hb hby own_d24_54) _ ?_
    exact k
   obtain ⟨cl31, Ar31, q31, S31, M31, H31, G31⟩ := id Vj
   obtain ⟨T32, h32, X32, e32, W32, st32⟩ := stB X28 hx hZ e28 Ar31 (j := (cp + (-1 : Int32))) (inb_of S31 (own_in34 hc1 (by omega))) (g := (mkF m 55 #[vi (ic / (100 : Int32)), vi ix, vr buf, vi (ic / (100 : Int32)), vi (((ic / (100 : Int32)) * (100 : Int32)) - ic), vi (cp + (-1 : Int32)), vi ng] [(.int (own_dig sv 6)), (.int (cp + (-1 : Int32))), (.ref buf)])) rfl rfl (hb hby own_d24_55)
   have N32 := Fr.snoc X32 Nj g_b
   have K32 : Keep h0 h32 [buf] := Kj.wr W32 (Or.inl (List.mem_of_getElem? (i := 0) rfl))
   have Z32 : n0 ≤ h32.size := Nat.le_trans Zj (Keep.of_wr W32).1
   have O32 := Oj.wr W32 g_b
   have fw32 := (show Arv Z h32 buf kb .byte (34 : Int32) (((own_wr sv pp 6 bs).set ((cp + (-1 : Int32))).toNatClampNeg (own_dig sv 6)).map Value.int) (.int 0) by have q := Arv.set Ar31 q31 S31 M31 H31 G31 (fits_nar_byte _) W32 (((cp + (-1 : Int32))).toNatClampNeg) rfl (by rw [List.length_map, own_wr_len, hbl, own_clamp hc1]; omega); rw [own_lset, own_dig_id sv 6] at q; exact q)
   rw [own_wr_s hc1] at fw32
   refine own_st (T' := T32) (g' := (mkF m 56 #[vi (ic / (100 : Int32)), vi ix, vr buf, vi (ic / (100 : Int32)), vi (((ic / (100 : Int32)) * (100 : Int32)) - ic), vi (cp + (-1 : Int32)), vi ng] [])) st32 ?_
   refine own_st (T' := T32) (g' := (mkF m 62 #[vi (ic / (100 : Int32)), vi ix, vr buf, vi (ic / (100 : Int32)), vi (((ic / (100 : Int32)) * (100 : Int32)) - ic), vi ((cp + (-1 : Int32)) + (-1 : Int32)), vi ng] [(.int ((cp + (-1 : Int32)) + (-1 : Int32))), (.ref buf)])) (fun t k => ?_) ?_
   ·refine XS.aloadN X32.here hx rfl (hb hby own_d24_56) rfl rfl ?_
    refine XS.iinc X32.here hx rfl (hb hby own_d24_57) rfl (l' := #[vi (ic / (100 : Int32)), vi ix, vr buf, vi (ic / (100 : Int32)), vi (((ic / (100 : Int32)) * (100 : Int32)) - ic), vi ((cp + (-1 : Int32)) + (-1 : Int32)), vi ng]) rfl ?_
    refine XS.iload X32.here hx rfl (hb hby own_d24_60) rfl ?_
    exact k
   have f33 := S_t.ext O32.2
   obtain ⟨T34, X34, e34, st34⟩ := getS2 X32 hx hZ hown (host := "") (Or.inl (own_w hw 253 rfl)) Via.refl e32 f33 (g := (mkF m 62 #[vi (ic / (100 : Int32)), vi ix, vr buf, vi (ic / (100 : Int32)), vi (((ic / (100 : Int32)) * (100 : Int32)) - ic), vi ((cp + (-1 : Int32)) + (-1 : Int32)), vi ng] [(.int ((cp + (-1 : Int32)) + (-1 : Int32))), (.ref buf)])) rfl (hb hby own_d24_62)
   refine own_st (T' := T34) (g' := (mkF m 65 #[vi (ic / (100 : Int32)), vi ix, vr buf, vi (ic / (100 : Int32)), vi (((ic / (100 : Int32)) * (100 : Int32)) - ic), vi ((cp + (-1 : Int32)) + (-1 : Int32)), vi ng] [(.ref d2), (.int ((cp + (-1 : Int32)) + (-1 : Int32))), (.ref buf)])) st34 ?_
   refine own_st (T' := T34) (g' := (mkF m 67 #[vi (ic / (100 : Int32)), vi ix, vr buf, vi (ic / (100 : Int32)), vi (((ic / (100 : Int32)) * (100 : Int32)) - ic), vi ((cp + (-1 : Int32)) + (-1 : Int32)), vi ng] [(.int (((ic / (100 : Int32)) * (100 : Int32)) - ic)), (.ref d2), (.int ((cp + (-1 : Int32)) + (-1 : Int32))), (.ref buf)])) (fun t k => ?_) ?_
   ·refine XS.iload X34.here hx rfl (hb hby own_d24_65) rfl ?_
    exact k
   have f35 := V_t.ext O32.2
   obtain ⟨cl36, Ar36, q36, S36, M36, H36, G36⟩ := id f35
   refine own_st (T' := T34) (g' := (mkF m 68 #[vi (ic / (100 : Int32)), vi ix, vr buf, vi (ic / (100 : Int32)), vi (((ic / (100 : Int32)) * (100 : Int32)) - ic), vi ((cp + (-1 : Int32)) + (-1 : Int32)), vi ng] [(.int (own_dig sv 7)), (.int ((cp + (-1 : Int32)) + (-1 : Int32))), (.ref buf)])) (fun t k => ?_) ?_
   ·refine X34.baloadBytes hx (j := (((ic / (100 : Int32)) * (100 : Int32)) - ic)) (v := (.int (own_dig sv 7))) (by rw [e34]; exact Ar36.1) (State.isArrayOf_alike hZ.alike Ar36.2.1) Ar36.2.2 (inb_of S36 (own_in100 (own_rs hi))) (Has.at H36 (inb_of S36 (own_in100 (own_rs hi))) ((own_lget own_tab2 ((((ic / (100 : Int32)) * (100 : Int32)) - ic)).toNatClampNeg).trans (congrArg Value.int (own_rd2 (own_rs hi))))) (g := (mkF m 67 #[vi (ic / (100 : Int32)), vi ix, vr buf, vi (ic / (100 : Int32)), vi (((ic / (100 : Int32)) * (100 : Int32)) - ic), vi ((cp + (-1 : Int32)) + (-1 : Int32)), vi ng] [(.int (((ic / (100 : Int32)) * (100 : Int32)) - ic)), (.ref d2), (.int ((cp + (-1 : Int32)) + (-1 : Int32))), (.ref buf)])) rfl rfl (hb hby own_d24_67) _ ?_
    exact k
   obtain ⟨cl37, Ar37, q37, S37, M37, H37, G37⟩ := id fw32
   obtain ⟨T38, h38, X38, e38, W38, st38⟩ := stB X34 hx hZ e34 Ar37 (j := ((cp + (-1 : Int32)) + (-1 : Int32))) (inb_of S37 (own_in34 hc2 (by omega))) (g := (mkF m 68 #[vi (ic / (100 : Int32)), vi ix, vr buf, vi (ic / (100 : Int32)), vi (((ic / (100 : Int32)) * (100 : Int32)) - ic), vi ((cp + (-1 : Int32)) + (-1 : Int32)), vi ng] [(.int (own_dig sv 7)), (.int ((cp + (-1 : Int32)) + (-1 : Int32))), (.ref buf)])) rfl rfl (hb hby own_d24_68)
   have N38 := Fr.snoc X38 N32 g_b
   have K38 : Keep h0 h38 [buf] := K32.wr W38 (Or.inl (List.mem_of_getElem? (i := 0) rfl))
   have Z38 : n0 ≤ h38.size := Nat.le_trans Z32 (Keep.of_wr W38).1
   have O38 := O32.wr W38 g_b
   have fw38 := (show Arv Z h38 buf kb .byte (34 : Int32) (((own_wr sv pp 7 bs).set (((cp + (-1 : Int32)) + (-1 : Int32))).toNatClampNeg (own_dig sv 7)).map Value.int) (.int 0) by have q := Arv.set Ar37 q37 S37 M37 H37 G37 (fits_nar_byte _) W38 ((((cp + (-1 : Int32)) + (-1 : Int32))).toNatClampNeg) rfl (by rw [List.length_map, own_wr_len, hbl, own_clamp hc2]; omega); rw [own_lset, own_dig_id sv 7] at q; exact q)
   rw [own_wr_s hc2] at fw38
   refine own_st (T' := T38) (g' := (mkF m 69 #[vi (ic / (100 : Int32)), vi ix, vr buf, vi (ic / (100 : Int32)), vi (((ic / (100 : Int32)) * (100 : Int32)) - ic), vi ((cp + (-1 : Int32)) + (-1 : Int32)), vi ng] [])) st38 ?_
   refine own_st (T' := T38) (g' := (mkF m 22 #[vi (ic / (100 : Int32)), vi ix, vr buf, vi (ic / (100 : Int32)), vi (((ic / (100 : Int32)) * (100 : Int32)) - ic), vi ((cp + (-1 : Int32)) + (-1 : Int32)), vi ng] [])) (fun t k => ?_) ?_
   ·refine XS.goto X38.here hx rfl (pc0 := 69) (pc' := 22) rfl (hb hby own_d24_69) (by decide) (by decide) ?_
    exact k
   exact J8 _ _ _ _ ng _ (own_qs hi) (own_hge h100) (by rw [hc2]; congr 1) fw38 K38 O38 Z38 hng T38 _ X38 N38 e38
 have J4 : ∀ (a3 a4 : Int32) (ic cp ng : Int32) (hh : Heap), ic.toInt = -((own_n sv / 10 ^ 4 : Nat) : Int) → 1 ≤ own_n sv / 10 ^ 4 → cp.toInt = ((pp - 4 : Nat) : Int) → Arv Z hh buf kb .byte (34 : Int32) ((own_wr sv pp 4 bs).map Value.int) (.int 0) → Keep h0 hh [buf] → Old Z n0 hh → n0 ≤ hh.size → ((ng = (1 : Int32) ∧ sv < (0 : Int32)) ∨ (ng = (0 : Int32) ∧ ¬ sv < (0 : Int32))) → ∀ (T : State) (locs : List Loc), Stand p l e own_r24 s m #[(.int sv), (.int ix), (.ref buf)] below meth c T locs 0 0 → Fr n0 locs → T.heap = hh → own_Go p e below (own_K s (own_Q24 Z sv ix buf kb bs pp d1 d2 kd1 kd2 h0 n0) own_r24.cells own_r24.slots) T (mkF m 22 #[vi ic, vi ix, vr buf, vi a3, vi a4, vi cp, vi ng] []) := by
  intro a3 a4 ic cp ng hh hi hge hcp Vj Kj Oj Zj hng Tj lj Xj Nj ej
  have hdl : 5 ≤ own_nd (own_n sv) := own_nd_d4 hge
  have hc1 : (cp + (-1 : Int32)).toInt = ((pp - 4 - 1 : Nat) : Int) := own_dec1 hcp (by omega)
  refine own_st (T' := Tj) (g' := (mkF m 25 #[vi ic, vi ix, vr buf, vi a3, vi a4, vi cp, vi ng] [(.int (-100)), (.int ic)])) (fun t k => ?_) ?_
  ·refine XS.iloadN Xj.here hx rfl (hb hby own_d24_22) rfl ?_
   refine XS.bipush Xj.here hx rfl (hb hby own_d24_23) ?_
   exact k
  by_cases hgt : (-100 : Int32) < ic
  ·have hlt := own_lt100 hi hgt
   refine own_st (T' := Tj) (g' := (mkF m 78 #[vi ic, vi ix, vr buf, vi a3, vi a4, vi (cp + (-1 : Int32)), vi ng] [(.int (cp + (-1 : Int32))), (.ref buf)])) (fun t k => ?_) ?_
   ·refine XS.icmpYes Xj.here hx rfl (pc0 := 25) (pc' := 72) rfl (hb hby own_d24_25) rfl (tlt hgt).2.2.1 (by decide) (by decide) ?_
    refine XS.aloadN Xj.here hx rfl (hb hby own_d24_72) rfl rfl ?_
    refine XS.iinc Xj.here hx rfl (hb hby own_d24_73) rfl (l' := #[vi ic, vi ix, vr buf, vi a3, vi a4, vi (cp + (-1 : Int32)), vi ng]) rfl ?_
    refine XS.iload Xj.here hx rfl (hb hby own_d24_76) rfl ?_
    exact k
   have f39 := S_o.ext Oj.2
   obtain ⟨T40, X40, e40, st40⟩ := getS2 Xj hx hZ hown (host := "") (Or.inl (own_w hw 137 rfl)) Via.refl ej f39 (g := (mkF m 78 #[vi ic, vi ix, vr buf, vi a3, vi a4, vi (cp + (-1 : Int32)), vi ng] [(.int (cp + (-1 : Int32))), (.ref buf)])) rfl (hb hby own_d24_78)
   refine own_st (T' := T40) (g' := (mkF m 81 #[vi ic, vi ix, vr buf, vi a3, vi a4, vi (cp + (-1 : Int32)), vi ng] [(.ref d1), (.int (cp + (-1 : Int32))), (.ref buf)])) st40 ?_
   refine own_st (T' := T40) (g' := (mkF m 83 #[vi ic, vi ix, vr buf, vi a3, vi a4, vi (cp + (-1 : Int32)), vi ng] [(.int (-ic)), (.ref d1), (.int (cp + (-1 : Int32))), (.ref buf)])) (fun t k => ?_) ?_
   ·refine XS.iloadN X40.here hx rfl (hb hby own_d24_81) rfl ?_
    refine XS.ineg X40.here hx rfl (hb hby own_d24_82) rfl ?_
    exact k
   have f41 := V_o.ext Oj.2
   obtain ⟨cl42, Ar42, q42, S42, M42, H42, G42⟩ := id f41
   refine own_st (T' := T40) (g' := (mkF m 84 #[vi ic, vi ix, vr buf, vi a3, vi a4, vi (cp + (-1 : Int32)), vi ng] [(.int (own_dig sv 4)), (.int (cp + (-1 : Int32))), (.ref buf)])) (fun t k => ?_) ?_
   ·refine X40.baloadBytes hx (j := (-ic)) (v := (.int (own_dig sv 4))) (by rw [e40]; exact Ar42.1) (State.isArrayOf_alike hZ.alike Ar42.2.1) Ar42.2.2 (inb_of S42 (own_in100 (own_ng hi hgt))) (Has.at H42 (inb_of S42 (own_in100 (own_ng hi hgt))) ((own_lget own_tab1 ((-ic)).toNatClampNeg).trans (congrArg Value.int (own_rd1 (own_ng hi hgt))))) (g := (mkF m 83 #[vi ic, vi ix, vr buf, vi a3, vi a4, vi (cp + (-1 : Int32)), vi ng] [(.int (-ic)), (.ref d1), (.int (cp + (-1 : Int32))), (.ref buf)])) rfl rfl (hb hby own_d24_83) _ ?_
    exact k
   obtain ⟨cl43, Ar43, q43, S43, M43, H43, G43⟩ := id Vj
   obtain ⟨T44, h44, X44, e44, W44, st44⟩ := stB X40 hx hZ e40 Ar43 (j := (cp + (-1 : Int32))) (inb_of S43 (own_in34 hc1 (by omega))) (g := (mkF m 84 #[vi ic, vi ix, vr buf, vi a3, vi a4, vi (cp + (-1 : Int32)), vi ng] [(.int (own_dig sv 4)), (.int (cp + (-1 : Int32))), (.ref buf)])) rfl rfl (hb hby own_d24_84)
   have N44 := Fr.snoc X44 Nj g_b
   have K44 : Keep h0 h44 [buf] := Kj.wr W44 (Or.inl (List.mem_of_getElem? (i := 0) rfl))
   have Z44 : n0 ≤ h44.size := Nat.le_trans Zj (Keep.of_wr W44).1
   have O44 := Oj.wr W44 g_b
   have fw44 := (show Arv Z h44 buf kb .byte (34 : Int32) (((own_wr sv pp 4 bs).set ((cp + (-1 : Int32))).toNatClampNeg (own_dig sv 4)).map Value.int) (.int 0) by have q := Arv.set Ar43 q43 S43 M43 H43 G43 (fits_nar_byte _) W44 (((cp + (-1 : Int32))).toNatClampNeg) rfl (by rw [List.length_map, own_wr_len, hbl, own_clamp hc1]; omega); rw [own_lset, own_dig_id sv 4] at q; exact q)
   rw [own_wr_s hc1] at fw44
   refine own_st (T' := T44) (g' := (mkF m 85 #[vi ic, vi ix, vr buf, vi a3, vi a4, vi (cp + (-1 : Int32)), vi ng] [])) st44 ?_
   refine own_st (T' := T44) (g' := (mkF m 88 #[vi ic, vi ix, vr buf, vi a3, vi a4, vi (cp + (-1 : Int32)), vi ng] [(.int (-9)), (.int ic)])) (fun t k => ?_) ?_
   ·refine XS.iloadN X44.here hx rfl (hb hby own_d24_85) rfl ?_
    refine XS.bipush X44.here hx rfl (hb hby own_d24_86) ?_
    exact k
   by_cases h9 : ic < (-9 : Int32)
   ·have hD : own_nd (own_n sv) = 6 := own_nd_b4 (own_lt9 hi h9) hlt
    have hc2 : ((cp + (-1 : Int32)) + (-1 : Int32)).toInt = ((pp - 5 - 1 : Nat) : Int) := by have q := own_dec1 hc1 (by omega); omega
    refine own_st (T' := T44) (g' := (mkF m 97 #[vi ic, vi ix, vr buf, vi a3, vi a4, vi ((cp + (-1 : Int32)) + (-1 : Int32)), vi ng] [(.int ((cp + (-1 : Int32)) + (-1 : Int32))), (.ref buf)])) (fun t k => ?_) ?_
    ·refine XS.icmpNo X44.here hx rfl (hb hby own_d24_88) rfl (tlt h9).2.1 ?_
     refine XS.aloadN X44.here hx rfl (hb hby own_d24_91) rfl rfl ?_
     refine XS.iinc X44.here hx rfl (hb hby own_d24_92) rfl (l' := #[vi ic, vi ix, vr buf, vi a3, vi a4, vi ((cp + (-1 : Int32)) + (-1 : Int32)), vi ng]) rfl ?_
     refine XS.iload X44.here hx rfl (hb hby own_d24_95) rfl ?_
     exact k
    have f45 := S_t.ext O44.2
    obtain ⟨T46, X46, e46, st46⟩ := getS2 X44 hx hZ hown (host := "") (Or.inl (own_w hw 253 rfl)) Via.refl e44 f45 (g := (mkF m 97 #[vi ic, vi ix, vr buf, vi a3, vi a4, vi ((cp + (-1 : Int32)) + (-1 : Int32)), vi ng] [(.int ((cp + (-1 : Int32)) + (-1 : Int32))), (.ref buf)])) rfl (hb hby own_d24_97)
    refine own_st (T' := T46) (g' := (mkF m 100 #[vi ic, vi ix, vr buf, vi a3, vi a4, vi ((cp + (-1 : Int32)) + (-1 : Int32)), vi ng] [(.ref d2), (.int ((cp + (-1 : Int32)) + (-1 : Int32))), (.ref buf)])) st46 ?_
    refine own_st (T' := T46) (g' := (mkF m 102 #[vi ic, vi ix, vr buf, vi a3, vi a4, vi ((cp + (-1 : Int32)) + (-1 : Int32)), vi ng] [(.int (-ic)), (.ref d2), (.int ((cp + (-1 : Int32)) + (-1 : Int32))), (.ref buf)])) (fun t k => ?_) ?_
    ·refine XS.iloadN X46.here hx rfl (hb hby own_d24_100) rfl ?_
     refine XS.ineg X46.here hx rfl (hb hby own_d24_101) rfl ?_
     exact k
    have f47 := V_t.ext O44.2
    obtain ⟨cl48, Ar48, q48, S48, M48, H48, G48⟩ := id f47
    refine own_st (T' := T46) (g' := (mkF m 103 #[vi ic, vi ix, vr buf, vi a3, vi a4, vi ((cp + (-1 : Int32)) + (-1 : Int32)), vi ng] [(.int (own_dig sv 5)), (.int ((cp + (-1 : Int32)) + (-1 : Int32))), (.ref buf)])) (fun t k => ?_) ?_
    ·refine X46.baloadBytes hx (j := (-ic)) (v := (.int (own_dig sv 5))) (by rw [e46]; exact Ar48.1) (State.isArrayOf_alike hZ.alike Ar48.2.1) Ar48.2.2 (inb_of S48 (own_in100 (own_ng hi hgt))) (Has.at H48 (inb_of S48 (own_in100 (own_ng hi hgt))) ((own_lget own_tab2 ((-ic)).toNatClampNeg).trans (congrArg Value.int (own_rd2 (own_ng hi hgt))))) (g := (mkF m 102 #[vi ic, vi ix, vr buf, vi a3, vi a4, vi ((cp + (-1 : Int32)) + (-1 : Int32)), vi ng] [(.int (-ic)), (.ref d2), (.int ((cp + (-1 : Int32)) + (-1 : Int32))), (.ref buf)])) rfl rfl (hb hby own_d24_102) _ ?_
     exact k
    obtain ⟨cl49, Ar49, q49, S49, M49, H49, G49⟩ := id fw44
    obtain ⟨T50, h50, X50, e50, W50, st50⟩ := stB X46 hx hZ e46 Ar49 (j := ((cp + (-1 : Int32)) + (-1 : Int32))) (inb_of S49 (own_in34 hc2 (by omega))) (g := (mkF m 103 #[vi ic, vi ix, vr buf, vi a3, vi a4, vi ((cp + (-1 : Int32)) + (-1 : Int32)), vi ng] [(.int (own_dig sv 5)), (.int ((cp + (-1 : Int32)) + (-1 : Int32))), (.ref buf)])) rfl rfl (hb hby own_d24_103)
    have N50 := Fr.snoc X50 N44 g_b
    have K50 : Keep h0 h50 [buf] := K44.wr W50 (Or.inl (List.mem_of_getElem? (i := 0) rfl))
    have Z50 : n0 ≤ h50.size := Nat.le_trans Z44 (Keep.of_wr W50).1
    have O50 := O44.wr W50 g_b
    have fw50 := (show Arv Z h50 buf kb .byte (34 : Int32) (((own_wr sv pp 5 bs).set (((cp + (-1 : Int32)) + (-1 : Int32))).toNatClampNeg (own_dig sv 5)).map Value.int) (.int 0) by have q := Arv.set Ar49 q49 S49 M49 H49 G49 (fits_nar_byte _) W50 ((((cp + (-1 : Int32)) + (-1 : Int32))).toNatClampNeg) rfl (by rw [List.length_map, own_wr_len, hbl, own_clamp hc2]; omega); rw [own_lset, own_dig_id sv 5] at q; exact q)
    rw [own_wr_s hc2] at fw50
    refine own_st (T' := T50) (g' := (mkF m 104 #[vi ic, vi ix, vr buf, vi a3, vi a4, vi ((cp + (-1 : Int32)) + (-1 : Int32)), vi ng] [])) st50 ?_
    exact Jt (vi a3) (vi a4) ic ((cp + (-1 : Int32)) + (-1 : Int32)) ng _ (by rw [hD]; exact hc2) (by rw [hD]; exact fw50) K50 O50 Z50 hng T50 _ X50 N50 e50
   ·have hD : own_nd (own_n sv) = 5 := own_nd_a4 hge (own_ge9 hi h9)
    refine own_st (T' := T44) (g' := (mkF m 104 #[vi ic, vi ix, vr buf, vi a3, vi a4, vi (cp + (-1 : Int32)), vi ng] [])) (fun t k => ?_) ?_
    ·refine XS.icmpYes X44.here hx rfl (pc0 := 88) (pc' := 104) rfl (hb hby own_d24_88) rfl (flt h9).2.1 (by decide) (by decide) ?_
     exact k
    exact Jt (vi a3) (vi a4) ic (cp + (-1 : Int32)) ng _ (by rw [hD]; exact hc1) (by rw [hD]; exact fw44) K44 O44 Z44 hng T44 _ X44 N44 e44
  ·have h100 := own_ge100 hi hgt
   have hD3 := own_nd_c4 h100
   have hc2 : ((cp + (-1 : Int32)) + (-1 : Int32)).toInt = ((pp - 5 - 1 : Nat) : Int) := by have q := own_dec1 hc1 (by omega); omega
   refine own_st (T' := Tj) (g' := (mkF m 49 #[vi (ic / (100 : Int32)), vi ix, vr buf, vi (ic / (100 : Int32)), vi (((ic / (100 : Int32)) * (100 : Int32)) - ic), vi (cp + (-1 : Int32)), vi ng] [(.int (cp + (-1 : Int32))), (.ref buf)])) (fun t k => ?_) ?_
   ·refine XS.icmpNo Xj.here hx rfl (hb hby own_d24_25) rfl (flt hgt).2.2.1 ?_
    refine XS.iloadN Xj.here hx rfl (hb hby own_d24_28) rfl ?_
    refine XS.bipush Xj.here hx rfl (hb hby own_d24_29) ?_
    refine XS.idiv Xj.here hx rfl (hb hby own_d24_31) rfl (by decide) ?_
    refine XS.istoreN Xj.here hx rfl (hb hby own_d24_32) rfl (l' := #[vi ic, vi ix, vr buf, vi (ic / (100 : Int32)), vi a4, vi cp, vi ng]) rfl ?_
    refine XS.iloadN Xj.here hx rfl (hb hby own_d24_33) rfl ?_
    refine XS.bipush Xj.here hx rfl (hb hby own_d24_34) ?_
    refine XS.imul Xj.here hx rfl (hb hby own_d24_36) rfl ?_
    refine XS.iloadN Xj.here hx rfl (hb hby own_d24_37) rfl ?_
    refine XS.isub Xj.here hx rfl (hb hby own_d24_38) rfl ?_
    refine XS.istore Xj.here hx rfl (hb hby own_d24_39) rfl (l' := #[vi ic, vi ix, vr buf, vi (ic / (100 : Int32)), vi (((ic / (100 : Int32)) * (100 : Int32)) - ic), vi cp, vi ng]) rfl ?_
    refine XS.iloadN Xj.here hx rfl (hb hby own_d24_41) rfl ?_
    refine XS.istoreN Xj.here hx rfl (hb hby own_d24_42) rfl (l' := #[vi (ic / (100 : Int32)), vi ix, vr buf, vi (ic / (100 : Int32)), vi (((ic / (100 : Int32)) * (100 : Int32)) - ic), vi cp, vi ng]) rfl ?_
    refine XS.aloadN Xj.here hx rfl (hb hby own_d24_43) rfl rfl ?_
    refine XS.iinc Xj.here hx rfl (hb hby own_d24_44) rfl (l' := #[vi (ic / (100 : Int32)), vi ix, vr buf, vi (ic / (100 : Int32)), vi (((ic / (100 : Int32)) * (100 : Int32)) - ic), vi (cp + (-1 : Int32)), vi ng]) rfl ?_
    refine XS.iload Xj.here hx rfl (hb hby own_d24_47) rfl ?_
    exact k
   have f51 := S_o.ext Oj.2
   obtain ⟨T52, X52, e52, st52⟩ := getS2 Xj hx hZ hown (host := "") (Or.inl (own_w hw 137 rfl)) Via.refl ej f51 (g := (mkF m 49 #[vi (ic / (100 : Int32)), vi ix, vr buf, vi (ic / (100 : Int32)), vi (((ic / (100 : Int32)) * (100 : Int32)) - ic), vi (cp + (-1 : Int32)), vi ng] [(.int (cp + (-1 : Int32))), (.ref buf)])) rfl (hb hby own_d24_49)
   refine own_st (T' := T52) (g' := (mkF m 52 #[vi (ic / (100 : Int32)), vi ix, vr buf, vi (ic / (100 : Int32)), vi (((ic / (100 : Int32)) * (100 : Int32)) - ic), vi (cp + (-1 : Int32)), vi ng] [(.ref d1), (.int (cp + (-1 : Int32))), (.ref buf)])) st52 ?_
   refine own_st (T' := T52) (g' := (mkF m 54 #[vi (ic / (100 : Int32)), vi ix, vr buf, vi (ic / (100 : Int32)), vi (((ic / (100 : Int32)) * (100 : Int32)) - ic), vi (cp + (-1 : Int32)), vi ng] [(.int (((ic / (100 : Int32)) * (100 : Int32)) - ic)), (.ref d1), (.int (cp + (-1 : Int32))), (.ref buf)])) (fun t k => ?_) ?_
   ·refine XS.iload X52.here hx rfl (hb hby own_d24_52) rfl ?_
    exact k
   have f53 := V_o.ext Oj.2
   obtain ⟨cl54, Ar54, q54, S54, M54, H54, G54⟩ := id f53
   refine own_st (T' := T52) (g' := (mkF m 55 #[vi (ic / (100 : Int32)), vi ix, vr buf, vi (ic / (100 : Int32)), vi (((ic / (100 : Int32)) * (100 : Int32)) - ic), vi (cp + (-1 : Int32)), vi ng] [(.int (own_dig sv 4)), (.int (cp + (-1 : Int32))), (.ref buf)])) (fun t k => ?_) ?_
   ·refine X52.baloadBytes hx (j := (((ic / (100 : Int32)) * (100 : Int32)) - ic)) (v := (.int (own_dig sv 4))) (by rw [e52]; exact Ar54.1) (State.isArrayOf_alike hZ.alike Ar54.2.1) Ar54.2.2 (inb_of S54 (own_in100 (own_rs hi))) (Has.at H54 (inb_of S54 (own_in100 (own_rs hi))) ((own_lget own_tab1 ((((ic / (100 : Int32)) * (100 : Int32)) - ic)).toNatClampNeg).trans (congrArg Value.int (own_rd1 (own_rs hi))))) (g := (mkF m 54 #[vi (ic / (100 : Int32)), vi ix, vr buf, vi (ic / (100 : Int32)), vi (((ic / (100 : Int32)) * (100 : Int32)) - ic), vi (cp + (-1 : Int32)), vi ng] [(.int (((ic / (100 : Int32)) * (100 : Int32)) - ic)), (.ref d1), (.int (cp + (-1 : Int32))), (.ref buf)])) rfl rfl (hb hby own_d24_54) _ ?_
    exact k
   obtain ⟨cl55, Ar55, q55, S55, M55, H55, G55⟩ := id Vj
   obtain ⟨T56, h56, X56, e56, W56, st56⟩ := stB X52 hx hZ e52 Ar55 (j := (cp + (-1 : Int32))) (inb_of S55 (own_in34 hc1 (by omega))) (g := (mkF m 55 #[vi (ic / (100 : Int32)), vi ix, vr buf, vi (ic / (100 : Int32)), vi (((ic / (100 : Int32)) * (100 : Int32)) - ic), vi (cp + (-1 : Int32)), vi ng] [(.int (own_dig sv 4)), (.int (cp + (-1 : Int32))), (.ref buf)])) rfl rfl (hb hby own_d24_55)
   have N56 := Fr.snoc X56 Nj g_b
   have K56 : Keep h0 h56 [buf] := Kj.wr W56 (Or.inl (List.mem_of_getElem? (i := 0) rfl))
   have Z56 : n0 ≤ h56.size := Nat.le_trans Zj (Keep.of_wr W56).1
   have O56 := Oj.wr W56 g_b
   have fw56 := (show Arv Z h56 buf kb .byte (34 : Int32) (((own_wr sv pp 4 bs).set ((cp + (-1 : Int32))).toNatClampNeg (own_dig sv 4)).map Value.int) (.int 0) by have q := Arv.set Ar55 q55 S55 M55 H55 G55 (fits_nar_byte _) W56 (((cp + (-1 : Int32))).toNatClampNeg) rfl (by rw [List.length_map, own_wr_len, hbl, own_clamp hc1]; omega); rw [own_lset, own_dig_id sv 4] at q; exact q)
   rw [own_wr_s hc1] at fw56
   refine own_st (T' := T56) (g' := (mkF m 56 #[vi (ic / (100 : Int32)), vi ix, vr buf, vi (ic / (100 : Int32)), vi (((ic / (100 : Int32)) * (100 : Int32)) - ic), vi (cp + (-1 : Int32)), vi ng] [])) st56 ?_
   refine own_st (T' := T56) (g' := (mkF m 62 #[vi (ic / (100 : Int32)), vi ix, vr buf, vi (ic / (100 : Int32)), vi (((ic / (100 : Int32)) * (100 : Int32)) - ic), vi ((cp + (-1 : Int32)) + (-1 : Int32)), vi ng] [(.int ((cp + (-1 : Int32)) + (-1 : Int32))), (.ref buf)])) (fun t k => ?_) ?_
   ·refine XS.aloadN X56.here hx rfl (hb hby own_d24_56) rfl rfl ?_
    refine XS.iinc X56.here hx rfl (hb hby own_d24_57) rfl (l' := #[vi (ic / (100 : Int32)), vi ix, vr buf, vi (ic / (100 : Int32)), vi (((ic / (100 : Int32)) * (100 : Int32)) - ic), vi ((cp + (-1 : Int32)) + (-1 : Int32)), vi ng]) rfl ?_
    refine XS.iload X56.here hx rfl (hb hby own_d24_60) rfl ?_
    exact k
   have f57 := S_t.ext O56.2
   obtain ⟨T58, X58, e58, st58⟩ := getS2 X56 hx hZ hown (host := "") (Or.inl (own_w hw 253 rfl)) Via.refl e56 f57 (g := (mkF m 62 #[vi (ic / (100 : Int32)), vi ix, vr buf, vi (ic / (100 : Int32)), vi (((ic / (100 : Int32)) * (100 : Int32)) - ic), vi ((cp + (-1 : Int32)) + (-1 : Int32)), vi ng] [(.int ((cp + (-1 : Int32)) + (-1 : Int32))), (.ref buf)])) rfl (hb hby own_d24_62)
   refine own_st (T' := T58) (g' := (mkF m 65 #[vi (ic / (100 : Int32)), vi ix, vr buf, vi (ic / (100 : Int32)), vi (((ic / (100 : Int32)) * (100 : Int32)) - ic), vi ((cp + (-1 : Int32)) + (-1 : Int32)), vi ng] [(.ref d2), (.int ((cp + (-1 : Int32)) + (-1 : Int32))), (.ref buf)])) st58 ?_
   refine own_st (T' := T58) (g' := (mkF m 67 #[vi (ic / (100 : Int32)), vi ix, vr buf, vi (ic / (100 : Int32)), vi (((ic / (100 : Int32)) * (100 : Int32)) - ic), vi ((cp + (-1 : Int32)) + (-1 : Int32)), vi ng] [(.int (((ic / (100 : Int32)) * (100 : Int32)) - ic)), (.ref d2), (.int ((cp + (-1 : Int32)) + (-1 : Int32))), (.ref buf)])) (fun t k => ?_) ?_
   ·refine XS.iload X58.here hx rfl (hb hby own_d24_65) rfl ?_
    exact k
   have f59 := V_t.ext O56.2
   obtain ⟨cl60, Ar60, q60, S60, M60, H60, G60⟩ := id f59
   refine own_st (T' := T58) (g' := (mkF m 68 #[vi (ic / (100 : Int32)), vi ix, vr buf, vi (ic / (100 : Int32)), vi (((ic / (100 : Int32)) * (100 : Int32)) - ic), vi ((cp + (-1 : Int32)) + (-1 : Int32)), vi ng] [(.int (own_dig sv 5)), (.int ((cp + (-1 : Int32)) + (-1 : Int32))), (.ref buf)])) (fun t k => ?_) ?_
   ·refine X58.baloadBytes hx (j := (((ic / (100 : Int32)) * (100 : Int32)) - ic)) (v := (.int (own_dig sv 5))) (by rw [e58]; exact Ar60.1) (State.isArrayOf_alike hZ.alike Ar60.2.1) Ar60.2.2 (inb_of S60 (own_in100 (own_rs hi))) (Has.at H60 (inb_of S60 (own_in100 (own_rs hi))) ((own_lget own_tab2 ((((ic / (100 : Int32)) * (100 : Int32)) - ic)).toNatClampNeg).trans (congrArg Value.int (own_rd2 (own_rs hi))))) (g := (mkF m 67 #[vi (ic / (100 : Int32)), vi ix, vr buf, vi (ic / (100 : Int32)), vi (((ic / (100 : Int32)) * (100 : Int32)) - ic), vi ((cp + (-1 : Int32)) + (-1 : Int32)), vi ng] [(.int (((ic / (100 : Int32)) * (100 : Int32)) - ic)), (.ref d2), (.int ((cp + (-1 : Int32)) + (-1 : Int32))), (.ref buf)])) rfl rfl (hb hby own_d24_67) _ ?_
    exact k
   obtain ⟨cl61, Ar61, q61, S61, M61, H61, G61⟩ := id fw56
   obtain ⟨T62, h62, X62, e62, W62, st62⟩ := stB X58 hx hZ e58 Ar61 (j := ((cp + (-1 : Int32)) + (-1 : Int32))) (inb_of S61 (own_in34 hc2 (by omega))) (g := (mkF m 68 #[vi (ic / (100 : Int32)), vi ix, vr buf, vi (ic / (100 : Int32)), vi (((ic / (100 : Int32)) * (100 : Int32)) - ic), vi ((cp + (-1 : Int32)) + (-1 : Int32)), vi ng] [(.int (own_dig sv 5)), (.int ((cp + (-1 : Int32)) + (-1 : Int32))), (.ref buf)])) rfl rfl (hb hby own_d24_68)
   have N62 := Fr.snoc X62 N56 g_b
   have K62 : Keep h0 h62 [buf] := K56.wr W62 (Or.inl (List.mem_of_getElem? (i := 0) rfl))
   have Z62 : n0 ≤ h62.size := Nat.le_trans Z56 (Keep.of_wr W62).1
   have O62 := O56.wr W62 g_b
   have fw62 := (show Arv Z h62 buf kb .byte (34 : Int32) (((own_wr sv pp 5 bs).set (((cp + (-1 : Int32)) + (-1 : Int32))).toNatClampNeg (own_dig sv 5)).map Value.int) (.int 0) by have q := Arv.set Ar61 q61 S61 M61 H61 G61 (fits_nar_byte _) W62 ((((cp + (-1 : Int32)) + (-1 : Int32))).toNatClampNeg) rfl (by rw [List.length_map, own_wr_len, hbl, own_clamp hc2]; omega); rw [own_lset, own_dig_id sv 5] at q; exact q)
   rw [own_wr_s hc2] at fw62
   refine own_st (T' := T62) (g' := (mkF m 69 #[vi (ic / (100 : Int32)), vi ix, vr buf, vi (ic / (100 : Int32)), vi (((ic / (100 : Int32)) * (100 : Int32)) - ic), vi ((cp + (-1 : Int32)) + (-1 : Int32)), vi ng] [])) st62 ?_
   refine own_st (T' := T62) (g' := (mkF m 22 #[vi (ic / (100 : Int32)), vi ix, vr buf, vi (ic / (100 : Int32)), vi (((ic / (100 : Int32)) * (100 : Int32)) - ic), vi ((cp + (-1 : Int32)) + (-1 : Int32)), vi ng] [])) (fun t k => ?_) ?_
   ·refine XS.goto X62.here hx rfl (pc0 := 69) (pc' := 22) rfl (hb hby own_d24_69) (by decide) (by decide) ?_
    exact k
   exact J6 _ _ _ _ ng _ (own_qs hi) (own_hge h100) (by rw [hc2]; congr 1) fw62 K62 O62 Z62 hng T62 _ X62 N62 e62
 have J2 : ∀ (a3 a4 : Int32) (ic cp ng : Int32) (hh : Heap), ic.toInt = -((own_n sv / 10 ^ 2 : Nat) : Int) → 1 ≤ own_n sv / 10 ^ 2 → cp.toInt = ((pp - 2 : Nat) : Int) → Arv Z hh buf kb .byte (34 : Int32) ((own_wr sv pp 2 bs).map Value.int) (.int 0) → Keep h0 hh [buf] → Old Z n0 hh → n0 ≤ hh.size → ((ng = (1 : Int32) ∧ sv < (0 : Int32)) ∨ (ng = (0 : Int32) ∧ ¬ sv < (0 : Int32))) → ∀ (T : State) (locs : List Loc), Stand p l e own_r24 s m #[(.int sv), (.int ix), (.ref buf)] below meth c T locs 0 0 → Fr n0 locs → T.heap = hh → own_Go p e below (own_K s (own_Q24 Z sv ix buf kb bs pp d1 d2 kd1 kd2 h0 n0) own_r24.cells own_r24.slots) T (mkF m 22 #[vi ic, vi ix, vr buf, vi a3, vi a4, vi cp, vi ng] []) := by
  intro a3 a4 ic cp ng hh hi hge hcp Vj Kj Oj Zj hng Tj lj Xj Nj ej
  have hdl : 3 ≤ own_nd (own_n sv) := own_nd_d2 hge
  have hc1 : (cp + (-1 : Int32)).toInt = ((pp - 2 - 1 : Nat) : Int) := own_dec1 hcp (by omega)
  refine own_st (T' := Tj) (g' := (mkF m 25 #[vi ic, vi ix, vr buf, vi a3, vi a4, vi cp, vi ng] [(.int (-100)), (.int ic)])) (fun t k => ?_) ?_
  ·refine XS.iloadN Xj.here hx rfl (hb hby own_d24_22) rfl ?_
   refine XS.bipush Xj.here hx rfl (hb hby own_d24_23) ?_
   exact k
  by_cases hgt : (-100 : Int32) < ic
  ·have hlt := own_lt100 hi hgt
   refine own_st (T' := Tj) (g' := (mkF m 78 #[vi ic, vi ix, vr buf, vi a3, vi a4, vi (cp + (-1 : Int32)), vi ng] [(.int (cp + (-1 : Int32))), (.ref buf)])) (fun t k => ?_) ?_
   ·refine XS.icmpYes Xj.here hx rfl (pc0 := 25) (pc' := 72) rfl (hb hby own_d24_25) rfl (tlt hgt).2.2.1 (by decide) (by decide) ?_
    refine XS.aloadN Xj.here hx rfl (hb hby own_d24_72) rfl rfl ?_
    refine XS.iinc Xj.here hx rfl (hb hby own_d24_73) rfl (l' := #[vi ic, vi ix, vr buf, vi a3, vi a4, vi (cp + (-1 : Int32)), vi ng]) rfl ?_
    refine XS.iload Xj.here hx rfl (hb hby own_d24_76) rfl ?_
    exact k
   have f63 := S_o.ext Oj.2
   obtain ⟨T64, X64, e64, st64⟩ := getS2 Xj hx hZ hown (host := "") (Or.inl (own_w hw 137 rfl)) Via.refl ej f63 (g := (mkF m 78 #[vi ic, vi ix, vr buf, vi a3, vi a4, vi (cp + (-1 : Int32)), vi ng] [(.int (cp + (-1 : Int32))), (.ref buf)])) rfl (hb hby own_d24_78)
   refine own_st (T' := T64) (g' := (mkF m 81 #[vi ic, vi ix, vr buf, vi a3, vi a4, vi (cp + (-1 : Int32)), vi ng] [(.ref d1), (.int (cp + (-1 : Int32))), (.ref buf)])) st64 ?_
   refine own_st (T' := T64) (g' := (mkF m 83 #[vi ic, vi ix, vr buf, vi a3, vi a4, vi (cp + (-1 : Int32)), vi ng] [(.int (-ic)), (.ref d1), (.int (cp + (-1 : Int32))), (.ref buf)])) (fun t k => ?_) ?_
   ·refine XS.iloadN X64.here hx rfl (hb hby own_d24_81) rfl ?_
    refine XS.ineg X64.here hx rfl (hb hby own_d24_82) rfl ?_
    exact k
   have f65 := V_o.ext Oj.2
   obtain ⟨cl66, Ar66, q66, S66, M66, H66, G66⟩ := id f65
   refine own_st (T' := T64) (g' := (mkF m 84 #[vi ic, vi ix, vr buf, vi a3, vi a4, vi (cp + (-1 : Int32)), vi ng] [(.int (own_dig sv 2)), (.int (cp + (-1 : Int32))), (.ref buf)])) (fun t k => ?_) ?_
   ·refine X64.baloadBytes hx (j := (-ic)) (v := (.int (own_dig sv 2))) (by rw [e64]; exact Ar66.1) (State.isArrayOf_alike hZ.alike Ar66.2.1) Ar66.2.2 (inb_of S66 (own_in100 (own_ng hi hgt))) (Has.at H66 (inb_of S66 (own_in100 (own_ng hi hgt))) ((own_lget own_tab1 ((-ic)).toNatClampNeg).trans (congrArg Value.int (own_rd1 (own_ng hi hgt))))) (g := (mkF m 83 #[vi ic, vi ix, vr buf, vi a3, vi a4, vi (cp + (-1 : Int32)), vi ng] [(.int (-ic)), (.ref d1), (.int (cp + (-1 : Int32))), (.ref buf)])) rfl rfl (hb hby own_d24_83) _ ?_
    exact k
   obtain ⟨cl67, Ar67, q67, S67, M67, H67, G67⟩ := id Vj
   obtain ⟨T68, h68, X68, e68, W68, st68⟩ := stB X64 hx hZ e64 Ar67 (j := (cp + (-1 : Int32))) (inb_of S67 (own_in34 hc1 (by omega))) (g := (mkF m 84 #[vi ic, vi ix, vr buf, vi a3, vi a4, vi (cp + (-1 : Int32)), vi ng] [(.int (own_dig sv 2)), (.int (cp + (-1 : Int32))), (.ref buf)])) rfl rfl (hb hby own_d24_84)
   have N68 := Fr.snoc X68 Nj g_b
   have K68 : Keep h0 h68 [buf] := Kj.wr W68 (Or.inl (List.mem_of_getElem? (i := 0) rfl))
   have Z68 : n0 ≤ h68.size := Nat.le_trans Zj (Keep.of_wr W68).1
   have O68 := Oj.wr W68 g_b
   have fw68 := (show Arv Z h68 buf kb .byte (34 : Int32) (((own_wr sv pp 2 bs).set ((cp + (-1 : Int32))).toNatClampNeg (own_dig sv 2)).map Value.int) (.int 0) by have q := Arv.set Ar67 q67 S67 M67 H67 G67 (fits_nar_byte _) W68 (((cp + (-1 : Int32))).toNatClampNeg) rfl (by rw [List.length_map, own_wr_len, hbl, own_clamp hc1]; omega); rw [own_lset, own_dig_id sv 2] at q; exact q)
   rw [own_wr_s hc1] at fw68
   refine own_st (T' := T68) (g' := (mkF m 85 #[vi ic, vi ix, vr buf, vi a3, vi a4, vi (cp + (-1 : Int32)), vi ng] [])) st68 ?_
   refine own_st (T' := T68) (g' := (mkF m 88 #[vi ic, vi ix, vr buf, vi a3, vi a4, vi (cp + (-1 : Int32)), vi ng] [(.int (-9)), (.int ic)])) (fun t k => ?_) ?_
   ·refine XS.iloadN X68.here hx rfl (hb hby own_d24_85) rfl ?_
    refine XS.bipush X68.here hx rfl (hb hby own_d24_86) ?_
    exact k
   by_cases h9 : ic < (-9 : Int32)
   ·have hD : own_nd (own_n sv) = 4 := own_nd_b2 (own_lt9 hi h9) hlt
    have hc2 : ((cp + (-1 : Int32)) + (-1 : Int32)).toInt = ((pp - 3 - 1 : Nat) : Int) := by have q := own_dec1 hc1 (by omega); omega
    refine own_st (T' := T68) (g' := (mkF m 97 #[vi ic, vi ix, vr buf, vi a3, vi a4, vi ((cp + (-1 : Int32)) + (-1 : Int32)), vi ng] [(.int ((cp + (-1 : Int32)) + (-1 : Int32))), (.ref buf)])) (fun t k => ?_) ?_
    ·refine XS.icmpNo X68.here hx rfl (hb hby own_d24_88) rfl (tlt h9).2.1 ?_
     refine XS.aloadN X68.here hx rfl (hb hby own_d24_91) rfl rfl ?_
     refine XS.iinc X68.here hx rfl (hb hby own_d24_92) rfl (l' := #[vi ic, vi ix, vr buf, vi a3, vi a4, vi ((cp + (-1 : Int32)) + (-1 : Int32)), vi ng]) rfl ?_
     refine XS.iload X68.here hx rfl (hb hby own_d24_95) rfl ?_
     exact k
    have f69 := S_t.ext O68.2
    obtain ⟨T70, X70, e70, st70⟩ := getS2 X68 hx hZ hown (host := "") (Or.inl (own_w hw 253 rfl)) Via.refl e68 f69 (g := (mkF m 97 #[vi ic, vi ix, vr buf, vi a3, vi a4, vi ((cp + (-1 : Int32)) + (-1 : Int32)), vi ng] [(.int ((cp + (-1 : Int32)) + (-1 : Int32))), (.ref buf)])) rfl (hb hby own_d24_97)
    refine own_st (T' := T70) (g' := (mkF m 100 #[vi ic, vi ix, vr buf, vi a3, vi a4, vi ((cp + (-1 : Int32)) + (-1 : Int32)), vi ng] [(.ref d2), (.int ((cp + (-1 : Int32)) + (-1 : Int32))), (.ref buf)])) st70 ?_
    refine own_st (T' := T70) (g' := (mkF m 102 #[vi ic, vi ix, vr buf, vi a3, vi a4, vi ((cp + (-1 : Int32)) + (-1 : Int32)), vi ng] [(.int (-ic)), (.ref d2), (.int ((cp + (-1 : Int32)) + (-1 : Int32))), (.ref buf)])) (fun t k => ?_) ?_
    ·refine XS.iloadN X70.here hx rfl (hb hby own_d24_100) rfl ?_
     refine XS.ineg X70.here hx rfl (hb hby own_d24_101) rfl ?_
     exact k
    have f71 := V_t.ext O68.2
    obtain ⟨cl72, Ar72, q72, S72, M72, H72, G72⟩ := id f71
    refine own_st (T' := T70) (g' := (mkF m 103 #[vi ic, vi ix, vr buf, vi a3, vi a4, vi ((cp + (-1 : Int32)) + (-1 : Int32)), vi ng] [(.int (own_dig sv 3)), (.int ((cp + (-1 : Int32)) + (-1 : Int32))), (.ref buf)])) (fun t k => ?_) ?_
    ·refine X70.baloadBytes hx (j := (-ic)) (v := (.int (own_dig sv 3))) (by rw [e70]; exact Ar72.1) (State.isArrayOf_alike hZ.alike Ar72.2.1) Ar72.2.2 (inb_of S72 (own_in100 (own_ng hi hgt))) (Has.at H72 (inb_of S72 (own_in100 (own_ng hi hgt))) ((own_lget own_tab2 ((-ic)).toNatClampNeg).trans (congrArg Value.int (own_rd2 (own_ng hi hgt))))) (g := (mkF m 102 #[vi ic, vi ix, vr buf, vi a3, vi a4, vi ((cp + (-1 : Int32)) + (-1 : Int32)), vi ng] [(.int (-ic)), (.ref d2), (.int ((cp + (-1 : Int32)) + (-1 : Int32))), (.ref buf)])) rfl rfl (hb hby own_d24_102) _ ?_
     exact k
    obtain ⟨cl73, Ar73, q73, S73, M73, H73, G73⟩ := id fw68
    obtain ⟨T74, h74, X74, e74, W74, st74⟩ := stB X70 hx hZ e70 Ar73 (j := ((cp + (-1 : Int32)) + (-1 : Int32))) (inb_of S73 (own_in34 hc2 (by omega))) (g := (mkF m 103 #[vi ic, vi ix, vr buf, vi a3, vi a4, vi ((cp + (-1 : Int32)) + (-1 : Int32)), vi ng] [(.int (own_dig sv 3)), (.int ((cp + (-1 : Int32)) + (-1 : Int32))), (.ref buf)])) rfl rfl (hb hby own_d24_103)
    have N74 := Fr.snoc X74 N68 g_b
    have K74 : Keep h0 h74 [buf] := K68.wr W74 (Or.inl (List.mem_of_getElem? (i := 0) rfl))
    have Z74 : n0 ≤ h74.size := Nat.le_trans Z68 (Keep.of_wr W74).1
    have O74 := O68.wr W74 g_b
    have fw74 := (show Arv Z h74 buf kb .byte (34 : Int32) (((own_wr sv pp 3 bs).set (((cp + (-1 : Int32)) + (-1 : Int32))).toNatClampNeg (own_dig sv 3)).map Value.int) (.int 0) by have q := Arv.set Ar73 q73 S73 M73 H73 G73 (fits_nar_byte _) W74 ((((cp + (-1 : Int32)) + (-1 : Int32))).toNatClampNeg) rfl (by rw [List.length_map, own_wr_len, hbl, own_clamp hc2]; omega); rw [own_lset, own_dig_id sv 3] at q; exact q)
    rw [own_wr_s hc2] at fw74
    refine own_st (T' := T74) (g' := (mkF m 104 #[vi ic, vi ix, vr buf, vi a3, vi a4, vi ((cp + (-1 : Int32)) + (-1 : Int32)), vi ng] [])) st74 ?_
    exact Jt (vi a3) (vi a4) ic ((cp + (-1 : Int32)) + (-1 : Int32)) ng _ (by rw [hD]; exact hc2) (by rw [hD]; exact fw74) K74 O74 Z74 hng T74 _ X74 N74 e74
   ·have hD : own_nd (own_n sv) = 3 := own_nd_a2 hge (own_ge9 hi h9)
    refine own_st (T' := T68) (g' := (mkF m 104 #[vi ic, vi ix, vr buf, vi a3, vi a4, vi (cp + (-1 : Int32)), vi ng] [])) (fun t k => ?_) ?_
    ·refine XS.icmpYes X68.here hx rfl (pc0 := 88) (pc' := 104) rfl (hb hby own_d24_88) rfl (flt h9).2.1 (by decide) (by decide) ?_
     exact k
    exact Jt (vi a3) (vi a4) ic (cp + (-1 : Int32)) ng _ (by rw [hD]; exact hc1) (by rw [hD]; exact fw68) K68 O68 Z68 hng T68 _ X68 N68 e68
  ·have h100 := own_ge100 hi hgt
   have hD3 := own_nd_c2 h100
   have hc2 : ((cp + (-1 : Int32)) + (-1 : Int32)).toInt = ((pp - 3 - 1 : Nat) : Int) := by have q := own_dec1 hc1 (by omega); omega
   refine own_st (T' := Tj) (g' := (mkF m 49 #[vi (ic / (100 : Int32)), vi ix, vr buf, vi (ic / (100 : Int32)), vi (((ic / (100 : Int32)) * (100 : Int32)) - ic), vi (cp + (-1 : Int32)), vi ng] [(.int (cp + (-1 : Int32))), (.ref buf)])) (fun t k => ?_) ?_
   ·refine XS.icmpNo Xj.here hx rfl (hb hby own_d24_25) rfl (flt hgt).2.2.1 ?_
    refine XS.iloadN Xj.here hx rfl (hb hby own_d24_28) rfl ?_
    refine XS.bipush Xj.here hx rfl (hb hby own_d24_29) ?_
    refine XS.idiv Xj.here hx rfl (hb hby own_d24_31) rfl (by decide) ?_
    refine XS.istoreN Xj.here hx rfl (hb hby own_d24_32) rfl (l' := #[vi ic, vi ix, vr buf, vi (ic / (100 : Int32)), vi a4, vi cp, vi ng]) rfl ?_
    refine XS.iloadN Xj.here hx rfl (hb hby own_d24_33) rfl ?_
    refine XS.bipush Xj.here hx rfl (hb hby own_d24_34) ?_
    refine XS.imul Xj.here hx rfl (hb hby own_d24_36) rfl ?_
    refine XS.iloadN Xj.here hx rfl (hb hby own_d24_37) rfl ?_
    refine XS.isub Xj.here hx rfl (hb hby own_d24_38) rfl ?_
    refine XS.istore Xj.here hx rfl (hb hby own_d24_39) rfl (l' := #[vi ic, vi ix, vr buf, vi (ic / (100 : Int32)), vi (((ic / (100 : Int32)) * (100 : Int32)) - ic), vi cp, vi ng]) rfl ?_
    refine XS.iloadN Xj.here hx rfl (hb hby own_d24_41) rfl ?_
    refine XS.istoreN Xj.here hx rfl (hb hby own_d24_42) rfl (l' := #[vi (ic / (100 : Int32)), vi ix, vr buf, vi (ic / (100 : Int32)), vi (((ic / (100 : Int32)) * (100 : Int32)) - ic), vi cp, vi ng]) rfl ?_
    refine XS.aloadN Xj.here hx rfl (hb hby own_d24_43) rfl rfl ?_
    refine XS.iinc Xj.here hx rfl (hb hby own_d24_44) rfl (l' := #[vi (ic / (100 : Int32)), vi ix, vr buf, vi (ic / (100 : Int32)), vi (((ic / (100 : Int32)) * (100 : Int32)) - ic), vi (cp + (-1 : Int32)), vi ng]) rfl ?_
    refine XS.iload Xj.here hx rfl (hb hby own_d24_47) rfl ?_
    exact k
   have f75 := S_o.ext Oj.2
   obtain ⟨T76, X76, e76, st76⟩ := getS2 Xj hx hZ hown (host := "") (Or.inl (own_w hw 137 rfl)) Via.refl ej f75 (g := (mkF m 49 #[vi (ic / (100 : Int32)), vi ix, vr buf, vi (ic / (100 : Int32)), vi (((ic / (100 : Int32)) * (100 : Int32)) - ic), vi (cp + (-1 : Int32)), vi ng] [(.int (cp + (-1 : Int32))), (.ref buf)])) rfl (hb hby own_d24_49)
   refine own_st (T' := T76) (g' := (mkF m 52 #[vi (ic / (100 : Int32)), vi ix, vr buf, vi (ic / (100 : Int32)), vi (((ic / (100 : Int32)) * (100 : Int32)) - ic), vi (cp + (-1 : Int32)), vi ng] [(.ref d1), (.int (cp + (-1 : Int32))), (.ref buf)])) st76 ?_
   refine own_st (T' := T76) (g' := (mkF m 54 #[vi (ic / (100 : Int32)), vi ix, vr buf, vi (ic / (100 : Int32)), vi (((ic / (100 : Int32)) * (100 : Int32)) - ic), vi (cp + (-1 : Int32)), vi ng] [(.int (((ic / (100 : Int32)) * (100 : Int32)) - ic)), (.ref d1), (.int (cp + (-1 : Int32))), (.ref buf)])) (fun t k => ?_) ?_
   ·refine XS.iload X76.here hx rfl (hb hby own_d24_52) rfl ?_
    exact k
   have f77 := V_o.ext Oj.2
   obtain ⟨cl78, Ar78, q78, S78, M78, H78, G78⟩ := id f77
   refine own_st (T' := T76) (g' := (mkF m 55 #[vi (ic / (100 : Int32)), vi ix, vr buf, vi (ic / (100 : Int32)), vi (((ic / (100 : Int32)) * (100 : Int32)) - ic), vi (cp + (-1 : Int32)), vi ng] [(.int (own_dig sv 2)), (.int (cp + (-1 : Int32))), (.ref buf)])) (fun t k => ?_) ?_
   ·refine X76.baloadBytes hx (j := (((ic / (100 : Int32)) * (100 : Int32)) - ic)) (v := (.int (own_dig sv 2))) (by rw [e76]; exact Ar78.1) (State.isArrayOf_alike hZ.alike Ar78.2.1) Ar78.2.2 (inb_of S78 (own_in100 (own_rs hi))) (Has.at H78 (inb_of S78 (own_in100 (own_rs hi))) ((own_lget own_tab1 ((((ic / (100 : Int32)) * (100 : Int32)) - ic)).toNatClampNeg).trans (congrArg Value.int (own_rd1 (own_rs hi))))) (g := (mkF m 54 #[vi (ic / (100 : Int32)), vi ix, vr buf, vi (ic / (100 : Int32)), vi (((ic / (100 : Int32)) * (100 : Int32)) - ic), vi (cp + (-1 : Int32)), vi ng] [(.int (((ic / (100 : Int32)) * (100 : Int32)) - ic)), (.ref d1), (.int (cp + (-1 : Int32))), (.ref buf)])) rfl rfl (hb hby own_d24_54) _ ?_
    exact k
   obtain ⟨cl79, Ar79, q79, S79, M79, H79, G79⟩ := id Vj
   obtain ⟨T80, h80, X80, e80, W80, st80⟩ := stB X76 hx hZ e76 Ar79 (j := (cp + (-1 : Int32))) (inb_of S79 (own_in34 hc1 (by omega))) (g := (mkF m 55 #[vi (ic / (100 : Int32)), vi ix, vr buf, vi (ic / (100 : Int32)), vi (((ic / (100 : Int32)) * (100 : Int32)) - ic), vi (cp + (-1 : Int32)), vi ng] [(.int (own_dig sv 2)), (.int (cp + (-1 : Int32))), (.ref buf)])) rfl rfl (hb hby own_d24_55)
   have N80 := Fr.snoc X80 Nj g_b
   have K80 : Keep h0 h80 [buf] := Kj.wr W80 (Or.inl (List.mem_of_getElem? (i := 0) rfl))
   have Z80 : n0 ≤ h80.size := Nat.le_trans Zj (Keep.of_wr W80).1
   have O80 := Oj.wr W80 g_b
   have fw80 := (show Arv Z h80 buf kb .byte (34 : Int32) (((own_wr sv pp 2 bs).set ((cp + (-1 : Int32))).toNatClampNeg (own_dig sv 2)).map Value.int) (.int 0) by have q := Arv.set Ar79 q79 S79 M79 H79 G79 (fits_nar_byte _) W80 (((cp + (-1 : Int32))).toNatClampNeg) rfl (by rw [List.length_map, own_wr_len, hbl, own_clamp hc1]; omega); rw [own_lset, own_dig_id sv 2] at q; exact q)
   rw [own_wr_s hc1] at fw80
   refine own_st (T' := T80) (g' := (mkF m 56 #[vi (ic / (100 : Int32)), vi ix, vr buf, vi (ic / (100 : Int32)), vi (((ic / (100 : Int32)) * (100 : Int32)) - ic), vi (cp + (-1 : Int32)), vi ng] [])) st80 ?_
   refine own_st (T' := T80) (g' := (mkF m 62 #[vi (ic / (100 : Int32)), vi ix, vr buf, vi (ic / (100 : Int32)), vi (((ic / (100 : Int32)) * (100 : Int32)) - ic), vi ((cp + (-1 : Int32)) + (-1 : Int32)), vi ng] [(.int ((cp + (-1 : Int32)) + (-1 : Int32))), (.ref buf)])) (fun t k => ?_) ?_
   ·refine XS.aloadN X80.here hx rfl (hb hby own_d24_56) rfl rfl ?_
    refine XS.iinc X80.here hx rfl (hb hby own_d24_57) rfl (l' := #[vi (ic / (100 : Int32)), vi ix, vr buf, vi (ic / (100 : Int32)), vi (((ic / (100 : Int32)) * (100 : Int32)) - ic), vi ((cp + (-1 : Int32)) + (-1 : Int32)), vi ng]) rfl ?_
    refine XS.iload X80.here hx rfl (hb hby own_d24_60) rfl ?_
    exact k
   have f81 := S_t.ext O80.2
   obtain ⟨T82, X82, e82, st82⟩ := getS2 X80 hx hZ hown (host := "") (Or.inl (own_w hw 253 rfl)) Via.refl e80 f81 (g := (mkF m 62 #[vi (ic / (100 : Int32)), vi ix, vr buf, vi (ic / (100 : Int32)), vi (((ic / (100 : Int32)) * (100 : Int32)) - ic), vi ((cp + (-1 : Int32)) + (-1 : Int32)), vi ng] [(.int ((cp + (-1 : Int32)) + (-1 : Int32))), (.ref buf)])) rfl (hb hby own_d24_62)
   refine own_st (T' := T82) (g' := (mkF m 65 #[vi (ic / (100 : Int32)), vi ix, vr buf, vi (ic / (100 : Int32)), vi (((ic / (100 : Int32)) * (100 : Int32)) - ic), vi ((cp + (-1 : Int32)) + (-1 : Int32)), vi ng] [(.ref d2), (.int ((cp + (-1 : Int32)) + (-1 : Int32))), (.ref buf)])) st82 ?_
   refine own_st (T' := T82) (g' := (mkF m 67 #[vi (ic / (100 : Int32)), vi ix, vr buf, vi (ic / (100 : Int32)), vi (((ic / (100 : Int32)) * (100 : Int32)) - ic), vi ((cp + (-1 : Int32)) + (-1 : Int32)), vi ng] [(.int (((ic / (100 : Int32)) * (100 : Int32)) - ic)), (.ref d2), (.int ((cp + (-1 : Int32)) + (-1 : Int32))), (.ref buf)])) (fun t k => ?_) ?_
   ·refine XS.iload X82.here hx rfl (hb hby own_d24_65) rfl ?_
    exact k
   have f83 := V_t.ext O80.2
   obtain ⟨cl84, Ar84, q84, S84, M84, H84, G84⟩ := id f83
   refine own_st (T' := T82) (g' := (mkF m 68 #[vi (ic / (100 : Int32)), vi ix, vr buf, vi (ic / (100 : Int32)), vi (((ic / (100 : Int32)) * (100 : Int32)) - ic), vi ((cp + (-1 : Int32)) + (-1 : Int32)), vi ng] [(.int (own_dig sv 3)), (.int ((cp + (-1 : Int32)) + (-1 : Int32))), (.ref buf)])) (fun t k => ?_) ?_
   ·refine X82.baloadBytes hx (j := (((ic / (100 : Int32)) * (100 : Int32)) - ic)) (v := (.int (own_dig sv 3))) (by rw [e82]; exact Ar84.1) (State.isArrayOf_alike hZ.alike Ar84.2.1) Ar84.2.2 (inb_of S84 (own_in100 (own_rs hi))) (Has.at H84 (inb_of S84 (own_in100 (own_rs hi))) ((own_lget own_tab2 ((((ic / (100 : Int32)) * (100 : Int32)) - ic)).toNatClampNeg).trans (congrArg Value.int (own_rd2 (own_rs hi))))) (g := (mkF m 67 #[vi (ic / (100 : Int32)), vi ix, vr buf, vi (ic / (100 : Int32)), vi (((ic / (100 : Int32)) * (100 : Int32)) - ic), vi ((cp + (-1 : Int32)) + (-1 : Int32)), vi ng] [(.int (((ic / (100 : Int32)) * (100 : Int32)) - ic)), (.ref d2), (.int ((cp + (-1 : Int32)) + (-1 : Int32))), (.ref buf)])) rfl rfl (hb hby own_d24_67) _ ?_
    exact k
   obtain ⟨cl85, Ar85, q85, S85, M85, H85, G85⟩ := id fw80
   obtain ⟨T86, h86, X86, e86, W86, st86⟩ := stB X82 hx hZ e82 Ar85 (j := ((cp + (-1 : Int32)) + (-1 : Int32))) (inb_of S85 (own_in34 hc2 (by omega))) (g := (mkF m 68 #[vi (ic / (100 : Int32)), vi ix, vr buf, vi (ic / (100 : Int32)), vi (((ic / (100 : Int32)) * (100 : Int32)) - ic), vi ((cp + (-1 : Int32)) + (-1 : Int32)), vi ng] [(.int (own_dig sv 3)), (.int ((cp + (-1 : Int32)) + (-1 : Int32))), (.ref buf)])) rfl rfl (hb hby own_d24_68)
   have N86 := Fr.snoc X86 N80 g_b
   have K86 : Keep h0 h86 [buf] := K80.wr W86 (Or.inl (List.mem_of_getElem? (i := 0) rfl))
   have Z86 : n0 ≤ h86.size := Nat.le_trans Z80 (Keep.of_wr W86).1
   have O86 := O80.wr W86 g_b
   have fw86 := (show Arv Z h86 buf kb .byte (34 : Int32) (((own_wr sv pp 3 bs).set (((cp + (-1 : Int32)) + (-1 : Int32))).toNatClampNeg (own_dig sv 3)).map Value.int) (.int 0) by have q := Arv.set Ar85 q85 S85 M85 H85 G85 (fits_nar_byte _) W86 ((((cp + (-1 : Int32)) + (-1 : Int32))).toNatClampNeg) rfl (by rw [List.length_map, own_wr_len, hbl, own_clamp hc2]; omega); rw [own_lset, own_dig_id sv 3] at q; exact q)
   rw [own_wr_s hc2] at fw86
   refine own_st (T' := T86) (g' := (mkF m 69 #[vi (ic / (100 : Int32)), vi ix, vr buf, vi (ic / (100 : Int32)), vi (((ic / (100 : Int32)) * (100 : Int32)) - ic), vi ((cp + (-1 : Int32)) + (-1 : Int32)), vi ng] [])) st86 ?_
   refine own_st (T' := T86) (g' := (mkF m 22 #[vi (ic / (100 : Int32)), vi ix, vr buf, vi (ic / (100 : Int32)), vi (((ic / (100 : Int32)) * (100 : Int32)) - ic), vi ((cp + (-1 : Int32)) + (-1 : Int32)), vi ng] [])) (fun t k => ?_) ?_
   ·refine XS.goto X86.here hx rfl (pc0 := 69) (pc' := 22) rfl (hb hby own_d24_69) (by decide) (by decide) ?_
    exact k
   exact J4 _ _ _ _ ng _ (own_qs hi) (own_hge h100) (by rw [hc2]; congr 1) fw86 K86 O86 Z86 hng T86 _ X86 N86 e86
 have J0 : ∀ (ic cp ng : Int32) (hh : Heap), ic.toInt = -((own_n sv / 10 ^ 0 : Nat) : Int) → cp.toInt = ((pp - 0 : Nat) : Int) → Arv Z hh buf kb .byte (34 : Int32) ((own_wr sv pp 0 bs).map Value.int) (.int 0) → Keep h0 hh [buf] → Old Z n0 hh → n0 ≤ hh.size → ((ng = (1 : Int32) ∧ sv < (0 : Int32)) ∨ (ng = (0 : Int32) ∧ ¬ sv < (0 : Int32))) → ∀ (T : State) (locs : List Loc), Stand p l e own_r24 s m #[(.int sv), (.int ix), (.ref buf)] below meth c T locs 0 0 → Fr n0 locs → T.heap = hh → own_Go p e below (own_K s (own_Q24 Z sv ix buf kb bs pp d1 d2 kd1 kd2 h0 n0) own_r24.cells own_r24.slots) T (mkF m 22 #[vi ic, vi ix, vr buf, .unset, .unset, vi cp, vi ng] []) := by
  intro ic cp ng hh hi hcp Vj Kj Oj Zj hng Tj lj Xj Nj ej
  have hdl : 1 ≤ own_nd (own_n sv) := (own_nd_r _).1
  have hc1 : (cp + (-1 : Int32)).toInt = ((pp - 0 - 1 : Nat) : Int) := own_dec1 hcp (by omega)
  refine own_st (T' := Tj) (g' := (mkF m 25 #[vi ic, vi ix, vr buf, .unset, .unset, vi cp, vi ng] [(.int (-100)), (.int ic)])) (fun t k => ?_) ?_
  ·refine XS.iloadN Xj.here hx rfl (hb hby own_d24_22) rfl ?_
   refine XS.bipush Xj.here hx rfl (hb hby own_d24_23) ?_
   exact k
  by_cases hgt : (-100 : Int32) < ic
  ·have hlt := own_lt100 hi hgt
   refine own_st (T' := Tj) (g' := (mkF m 78 #[vi ic, vi ix, vr buf, .unset, .unset, vi (cp + (-1 : Int32)), vi ng] [(.int (cp + (-1 : Int32))), (.ref buf)])) (fun t k => ?_) ?_
   ·refine XS.icmpYes Xj.here hx rfl (pc0 := 25) (pc' := 72) rfl (hb hby own_d24_25) rfl (tlt hgt).2.2.1 (by decide) (by decide) ?_
    refine XS.aloadN Xj.here hx rfl (hb hby own_d24_72) rfl rfl ?_
    refine XS.iinc Xj.here hx rfl (hb hby own_d24_73) rfl (l' := #[vi ic, vi ix, vr buf, .unset, .unset, vi (cp + (-1 : Int32)), vi ng]) rfl ?_
    refine XS.iload Xj.here hx rfl (hb hby own_d24_76) rfl ?_
    exact k
   have f87 := S_o.ext Oj.2
   obtain ⟨T88, X88, e88, st88⟩ := getS2 Xj hx hZ hown (host := "") (Or.inl (own_w hw 137 rfl)) Via.refl ej f87 (g := (mkF m 78 #[vi ic, vi ix, vr buf, .unset, .unset, vi (cp + (-1 : Int32)), vi ng] [(.int (cp + (-1 : Int32))), (.ref buf)])) rfl (hb hby own_d24_78)
   refine own_st (T' := T88) (g' := (mkF m 81 #[vi ic, vi ix, vr buf, .unset, .unset, vi (cp + (-1 : Int32)), vi ng] [(.ref d1), (.int (cp + (-1 : Int32))), (.ref buf)])) st88 ?_
   refine own_st (T' := T88) (g' := (mkF m 83 #[vi ic, vi ix, vr buf, .unset, .unset, vi (cp + (-1 : Int32)), vi ng] [(.int (-ic)), (.ref d1), (.int (cp + (-1 : Int32))), (.ref buf)])) (fun t k => ?_) ?_
   ·refine XS.iloadN X88.here hx rfl (hb hby own_d24_81) rfl ?_
    refine XS.ineg X88.here hx rfl (hb hby own_d24_82) rfl ?_
    exact k
   have f89 := V_o.ext Oj.2
   obtain ⟨cl90, Ar90, q90, S90, M90, H90, G90⟩ := id f89
   refine own_st (T' := T88) (g' := (mkF m 84 #[vi ic, vi ix, vr buf, .unset, .unset, vi (cp + (-1 : Int32)), vi ng] [(.int (own_dig sv 0)), (.int (cp + (-1 : Int32))), (.ref buf)])) (fun t k => ?_) ?_
   ·refine X88.baloadBytes hx (j := (-ic)) (v := (.int (own_dig sv 0))) (by rw [e88]; exact Ar90.1) (State.isArrayOf_alike hZ.alike Ar90.2.1) Ar90.2.2 (inb_of S90 (own_in100 (own_ng hi hgt))) (Has.at H90 (inb_of S90 (own_in100 (own_ng hi hgt))) ((own_lget own_tab1 ((-ic)).toNatClampNeg).trans (congrArg Value.int (own_rd1 (own_ng hi hgt))))) (g := (mkF m 83 #[vi ic, vi ix, vr buf, .unset, .unset, vi (cp + (-1 : Int32)), vi ng] [(.int (-ic)), (.ref d1), (.int (cp + (-1 : Int32))), (.ref buf)])) rfl rfl (hb hby own_d24_83) _ ?_
    exact k
   obtain ⟨cl91, Ar91, q91, S91, M91, H91, G91⟩ := id Vj
   obtain ⟨T92, h92, X92, e92, W92, st92⟩ := stB X88 hx hZ e88 Ar91 (j := (cp + (-1 : Int32))) (inb_of S91 (own_in34 hc1 (by omega))) (g := (mkF m 84 #[vi ic, vi ix, vr buf, .unset, .unset, vi (cp + (-1 : Int32)), vi ng] [(.int (own_dig sv 0)), (.int (cp + (-1 : Int32))), (.ref buf)])) rfl rfl (hb hby own_d24_84)
   have N92 := Fr.snoc X92 Nj g_b
   have K92 : Keep h0 h92 [buf] := Kj.wr W92 (Or.inl (List.mem_of_getElem? (i := 0) rfl))
   have Z92 : n0 ≤ h92.size := Nat.le_trans Zj (Keep.of_wr W92).1
   have O92 := Oj.wr W92 g_b
   have fw92 := (show Arv Z h92 buf kb .byte (34 : Int32) (((own_wr sv pp 0 bs).set ((cp + (-1 : Int32))).toNatClampNeg (own_dig sv 0)).map Value.int) (.int 0) by have q := Arv.set Ar91 q91 S91 M91 H91 G91 (fits_nar_byte _) W92 (((cp + (-1 : Int32))).toNatClampNeg) rfl (by rw [List.length_map, own_wr_len, hbl, own_clamp hc1]; omega); rw [own_lset, own_dig_id sv 0] at q; exact q)
   rw [own_wr_s hc1] at fw92
   refine own_st (T' := T92) (g' := (mkF m 85 #[vi ic, vi ix, vr buf, .unset, .unset, vi (cp + (-1 : Int32)), vi ng] [])) st92 ?_
   refine own_st (T' := T92) (g' := (mkF m 88 #[vi ic, vi ix, vr buf, .unset, .unset, vi (cp + (-1 : Int32)), vi ng] [(.int (-9)), (.int ic)])) (fun t k => ?_) ?_
   ·refine XS.iloadN X92.here hx rfl (hb hby own_d24_85) rfl ?_
    refine XS.bipush X92.here hx rfl (hb hby own_d24_86) ?_
    exact k
   by_cases h9 : ic < (-9 : Int32)
   ·have hD : own_nd (own_n sv) = 2 := own_nd_b0 (own_lt9 hi h9) hlt
    have hc2 : ((cp + (-1 : Int32)) + (-1 : Int32)).toInt = ((pp - 1 - 1 : Nat) : Int) := by have q := own_dec1 hc1 (by omega); omega
    refine own_st (T' := T92) (g' := (mkF m 97 #[vi ic, vi ix, vr buf, .unset, .unset, vi ((cp + (-1 : Int32)) + (-1 : Int32)), vi ng] [(.int ((cp + (-1 : Int32)) + (-1 : Int32))), (.ref buf)])) (fun t k => ?_) ?_
    ·refine XS.icmpNo X92.here hx rfl (hb hby own_d24_88) rfl (tlt h9).2.1 ?_
     refine XS.aloadN X92.here hx rfl (hb hby own_d24_91) rfl rfl ?_
     refine XS.iinc X92.here hx rfl (hb hby own_d24_92) rfl (l' := #[vi ic, vi ix, vr buf, .unset, .unset, vi ((cp + (-1 : Int32)) + (-1 : Int32)), vi ng]) rfl ?_
     refine XS.iload X92.here hx rfl (hb hby own_d24_95) rfl ?_
     exact k
    have f93 := S_t.ext O92.2
    obtain ⟨T94, X94, e94, st94⟩ := getS2 X92 hx hZ hown (host := "") (Or.inl (own_w hw 253 rfl)) Via.refl e92 f93 (g := (mkF m 97 #[vi ic, vi ix, vr buf, .unset, .unset, vi ((cp + (-1 : Int32)) + (-1 : Int32)), vi ng] [(.int ((cp + (-1 : Int32)) + (-1 : Int32))), (.ref buf)])) rfl (hb hby own_d24_97)
    refine own_st (T' := T94) (g' := (mkF m 100 #[vi ic, vi ix, vr buf, .unset, .unset, vi ((cp + (-1 : Int32)) + (-1 : Int32)), vi ng] [(.ref d2), (.int ((cp + (-1 : Int32)) + (-1 : Int32))), (.ref buf)])) st94 ?_
    refine own_st (T' := T94) (g' := (mkF m 102 #[vi ic, vi ix, vr buf, .unset, .unset, vi ((cp + (-1 : Int32)) + (-1 : Int32)), vi ng] [(.int (-ic)), (.ref d2), (.int ((cp + (-1 : Int32)) + (-1 : Int32))), (.ref buf)])) (fun t k => ?_) ?_
    ·refine XS.iloadN X94.here hx rfl (hb hby own_d24_100) rfl ?_
     refine XS.ineg X94.here hx rfl (hb hby own_d24_101) rfl ?_
     exact k
    have f95 := V_t.ext O92.2
    obtain ⟨cl96, Ar96, q96, S96, M96, H96, G96⟩ := id f95
    refine own_st (T' := T94) (g' := (mkF m 103 #[vi ic, vi ix, vr buf, .unset, .unset, vi ((cp + (-1 : Int32)) + (-1 : Int32)), vi ng] [(.int (own_dig sv 1)), (.int ((cp + (-1 : Int32)) + (-1 : Int32))), (.ref buf)])) (fun t k => ?_) ?_
    ·refine X94.baloadBytes hx (j := (-ic)) (v := (.int (own_dig sv 1))) (by rw [e94]; exact Ar96.1) (State.isArrayOf_alike hZ.alike Ar96.2.1) Ar96.2.2 (inb_of S96 (own_in100 (own_ng hi hgt))) (Has.at H96 (inb_of S96 (own_in100 (own_ng hi hgt))) ((own_lget own_tab2 ((-ic)).toNatClampNeg).trans (congrArg Value.int (own_rd2 (own_ng hi hgt))))) (g := (mkF m 102 #[vi ic, vi ix, vr buf, .unset, .unset, vi ((cp + (-1 : Int32)) + (-1 : Int32)), vi ng] [(.int (-ic)), (.ref d2), (.int ((cp + (-1 : Int32)) + (-1 : Int32))), (.ref buf)])) rfl rfl (hb hby own_d24_102) _ ?_
     exact k
    obtain ⟨cl97, Ar97, q97, S97, M97, H97, G97⟩ := id fw92
    obtain ⟨T98, h98, X98, e98, W98, st98⟩ := stB X94 hx hZ e94 Ar97 (j := ((cp + (-1 : Int32)) + (-1 : Int32))) (inb_of S97 (own_in34 hc2 (by omega))) (g := (mkF m 103 #[vi ic, vi ix, vr buf, .unset, .unset, vi ((cp + (-1 : Int32)) + (-1 : Int32)), vi ng] [(.int (own_dig sv 1)), (.int ((cp + (-1 : Int32)) + (-1 : Int32))), (.ref buf)])) rfl rfl (hb hby own_d24_103)
    have N98 := Fr.snoc X98 N92 g_b
    have K98 : Keep h0 h98 [buf] := K92.wr W98 (Or.inl (List.mem_of_getElem? (i := 0) rfl))
    have Z98 : n0 ≤ h98.size := Nat.le_trans Z92 (Keep.of_wr W98).1
    have O98 := O92.wr W98 g_b
    have fw98 := (show Arv Z h98 buf kb .byte (34 : Int32) (((own_wr sv pp 1 bs).set (((cp + (-1 : Int32)) + (-1 : Int32))).toNatClampNeg (own_dig sv 1)).map Value.int) (.int 0) by have q := Arv.set Ar97 q97 S97 M97 H97 G97 (fits_nar_byte _) W98 ((((cp + (-1 : Int32)) + (-1 : Int32))).toNatClampNeg) rfl (by rw [List.length_map, own_wr_len, hbl, own_clamp hc2]; omega); rw [own_lset, own_dig_id sv 1] at q; exact q)
    rw [own_wr_s hc2] at fw98
    refine own_st (T' := T98) (g' := (mkF m 104 #[vi ic, vi ix, vr buf, .unset, .unset, vi ((cp + (-1 : Int32)) + (-1 : Int32)), vi ng] [])) st98 ?_
    exact Jt .unset .unset ic ((cp + (-1 : Int32)) + (-1 : Int32)) ng _ (by rw [hD]; exact hc2) (by rw [hD]; exact fw98) K98 O98 Z98 hng T98 _ X98 N98 e98
   ·have hD : own_nd (own_n sv) = 1 := own_nd_a0 (own_ge9 hi h9)
    refine own_st (T' := T92) (g' := (mkF m 104 #[vi ic, vi ix, vr buf, .unset, .unset, vi (cp + (-1 : Int32)), vi ng] [])) (fun t k => ?_) ?_
    ·refine XS.icmpYes X92.here hx rfl (pc0 := 88) (pc' := 104) rfl (hb hby own_d24_88) rfl (flt h9).2.1 (by decide) (by decide) ?_
     exact k
    exact Jt .unset .unset ic (cp + (-1 : Int32)) ng _ (by rw [hD]; exact hc1) (by rw [hD]; exact fw92) K92 O92 Z92 hng T92 _ X92 N92 e92
  ·have h100 := own_ge100 hi hgt
   have hD3 := own_nd_c0 h100
   have hc2 : ((cp + (-1 : Int32)) + (-1 : Int32)).toInt = ((pp - 1 - 1 : Nat) : Int) := by have q := own_dec1 hc1 (by omega); omega
   refine own_st (T' := Tj) (g' := (mkF m 49 #[vi (ic / (100 : Int32)), vi ix, vr buf, vi (ic / (100 : Int32)), vi (((ic / (100 : Int32)) * (100 : Int32)) - ic), vi (cp + (-1 : Int32)), vi ng] [(.int (cp + (-1 : Int32))), (.ref buf)])) (fun t k => ?_) ?_
   ·refine XS.icmpNo Xj.here hx rfl (hb hby own_d24_25) rfl (flt hgt).2.2.1 ?_
    refine XS.iloadN Xj.here hx rfl (hb hby own_d24_28) rfl ?_
    refine XS.bipush Xj.here hx rfl (hb hby own_d24_29) ?_
    refine XS.idiv Xj.here hx rfl (hb hby own_d24_31) rfl (by decide) ?_
    refine XS.istoreN Xj.here hx rfl (hb hby own_d24_32) rfl (l' := #[vi ic, vi ix, vr buf, vi (ic / (100 : Int32)), .unset, vi cp, vi ng]) rfl ?_
    refine XS.iloadN Xj.here hx rfl (hb hby own_d24_33) rfl ?_
    refine XS.bipush Xj.here hx rfl (hb hby own_d24_34) ?_
    refine XS.imul Xj.here hx rfl (hb hby own_d24_36) rfl ?_
    refine XS.iloadN Xj.here hx rfl (hb hby own_d24_37) rfl ?_
    refine XS.isub Xj.here hx rfl (hb hby own_d24_38) rfl ?_
    refine XS.istore Xj.here hx rfl (hb hby own_d24_39) rfl (l' := #[vi ic, vi ix, vr buf, vi (ic / (100 : Int32)), vi (((ic / (100 : Int32)) * (100 : Int32)) - ic), vi cp, vi ng]) rfl ?_
    refine XS.iloadN Xj.here hx rfl (hb hby own_d24_41) rfl ?_
    refine XS.istoreN Xj.here hx rfl (hb hby own_d24_42) rfl (l' := #[vi (ic / (100 : Int32)), vi ix, vr buf, vi (ic / (100 : Int32)), vi (((ic / (100 : Int32)) * (100 : Int32)) - ic), vi cp, vi ng]) rfl ?_
    refine XS.aloadN Xj.here hx rfl (hb hby own_d24_43) rfl rfl ?_
    refine XS.iinc Xj.here hx rfl (hb hby own_d24_44) rfl (l' := #[vi (ic / (100 : Int32)), vi ix, vr buf, vi (ic / (100 : Int32)), vi (((ic / (100 : Int32)) * (100 : Int32)) - ic), vi (cp + (-1 : Int32)), vi ng]) rfl ?_
    refine XS.iload Xj.here hx rfl (hb hby own_d24_47) rfl ?_
    exact k
   have f99 := S_o.ext Oj.2
   obtain ⟨T100, X100, e100, st100⟩ := getS2 Xj hx hZ hown (host := "") (Or.inl (own_w hw 137 rfl)) Via.refl ej f99 (g := (mkF m 49 #[vi (ic / (100 : Int32)), vi ix, vr buf, vi (ic / (100 : Int32)), vi (((ic / (100 : Int32)) * (100 : Int32)) - ic), vi (cp + (-1 : Int32)), vi ng] [(.int (cp + (-1 : Int32))), (.ref buf)])) rfl (hb hby own_d24_49)
   refine own_st (T' := T100) (g' := (mkF m 52 #[vi (ic / (100 : Int32)), vi ix, vr buf, vi (ic / (100 : Int32)), vi (((ic / (100 : Int32)) * (100 : Int32)) - ic), vi (cp + (-1 : Int32)), vi ng] [(.ref d1), (.int (cp + (-1 : Int32))), (.ref buf)])) st100 ?_
   refine own_st (T' := T100) (g' := (mkF m 54 #[vi (ic / (100 : Int32)), vi ix, vr buf, vi (ic / (100 : Int32)), vi (((ic / (100 : Int32)) * (100 : Int32)) - ic), vi (cp + (-1 : Int32)), vi ng] [(.int (((ic / (100 : Int32)) * (100 : Int32)) - ic)), (.ref d1), (.int (cp + (-1 : Int32))), (.ref buf)])) (fun t k => ?_) ?_
   ·refine XS.iload X100.here hx rfl (hb hby own_d24_52) rfl ?_
    exact k
   have f101 := V_o.ext Oj.2
   obtain ⟨cl102, Ar102, q102, S102, M102, H102, G102⟩ := id f101
   refine own_st (T' := T100) (g' := (mkF m 55 #[vi (ic / (100 : Int32)), vi ix, vr buf, vi (ic / (100 : Int32)), vi (((ic / (100 : Int32)) * (100 : Int32)) - ic), vi (cp + (-1 : Int32)), vi ng] [(.int (own_dig sv 0)), (.int (cp + (-1 : Int32))), (.ref buf)])) (fun t k => ?_) ?_
   ·refine X100.baloadBytes hx (j := (((ic / (100 : Int32)) * (100 : Int32)) - ic)) (v := (.int (own_dig sv 0))) (by rw [e100]; exact Ar102.1) (State.isArrayOf_alike hZ.alike Ar102.2.1) Ar102.2.2 (inb_of S102 (own_in100 (own_rs hi))) (Has.at H102 (inb_of S102 (own_in100 (own_rs hi))) ((own_lget own_tab1 ((((ic / (100 : Int32)) * (100 : Int32)) - ic)).toNatClampNeg).trans (congrArg Value.int (own_rd1 (own_rs hi))))) (g := (mkF m 54 #[vi (ic / (100 : Int32)), vi ix, vr buf, vi (ic / (100 : Int32)), vi (((ic / (100 : Int32)) * (100 : Int32)) - ic), vi (cp + (-1 : Int32)), vi ng] [(.int (((ic / (100 : Int32)) * (100 : Int32)) - ic)), (.ref d1), (.int (cp + (-1 : Int32))), (.ref buf)])) rfl rfl (hb hby own_d24_54) _ ?_
    exact k
   obtain ⟨cl103, Ar103, q103, S103, M103, H103, G103⟩ := id Vj
   obtain ⟨T104, h104, X104, e104, W104, st104⟩ := stB X100 hx hZ e100 Ar103 (j := (cp + (-1 : Int32))) (inb_of S103 (own_in34 hc1 (by omega))) (g := (mkF m 55 #[vi (ic / (100 : Int32)), vi ix, vr buf, vi (ic / (100 : Int32)), vi (((ic / (100 : Int32)) * (100 : Int32)) - ic), vi (cp + (-1 : Int32)), vi ng] [(.int (own_dig sv 0)), (.int (cp + (-1 : Int32))), (.ref buf)])) rfl rfl (hb hby own_d24_55)
   have N104 := Fr.snoc X104 Nj g_b
   have K104 : Keep h0 h104 [buf] := Kj.wr W104 (Or.inl (List.mem_of_getElem? (i := 0) rfl))
   have Z104 : n0 ≤ h104.size := Nat.le_trans Zj (Keep.of_wr W104).1
   have O104 := Oj.wr W104 g_b
   have fw104 := (show Arv Z h104 buf kb .byte (34 : Int32) (((own_wr sv pp 0 bs).set ((cp + (-1 : Int32))).toNatClampNeg (own_dig sv 0)).map Value.int) (.int 0) by have q := Arv.set Ar103 q103 S103 M103 H103 G103 (fits_nar_byte _) W104 (((cp + (-1 : Int32))).toNatClampNeg) rfl (by rw [List.length_map, own_wr_len, hbl, own_clamp hc1]; omega); rw [own_lset, own_dig_id sv 0] at q; exact q)
   rw [own_wr_s hc1] at fw104
   refine own_st (T' := T104) (g' := (mkF m 56 #[vi (ic / (100 : Int32)), vi ix, vr buf, vi (ic / (100 : Int32)), vi (((ic / (100 : Int32)) * (100 : Int32)) - ic), vi (cp + (-1 : Int32)), vi ng] [])) st104 ?_
   refine own_st (T' := T104) (g' := (mkF m 62 #[vi (ic / (100 : Int32)), vi ix, vr buf, vi (ic / (100 : Int32)), vi (((ic / (100 : Int32)) * (100 : Int32)) - ic), vi ((cp + (-1 : Int32)) + (-1 : Int32)), vi ng] [(.int ((cp + (-1 : Int32)) + (-1 : Int32))), (.ref buf)])) (fun t k => ?_) ?_
   ·refine XS.aloadN X104.here hx rfl (hb hby own_d24_56) rfl rfl ?_
    refine XS.iinc X104.here hx rfl (hb hby own_d24_57) rfl (l' := #[vi (ic / (100 : Int32)), vi ix, vr buf, vi (ic / (100 : Int32)), vi (((ic / (100 : Int32)) * (100 : Int32)) - ic), vi ((cp + (-1 : Int32)) + (-1 : Int32)), vi ng]) rfl ?_
    refine XS.iload X104.here hx rfl (hb hby own_d24_60) rfl ?_
    exact k
   have f105 := S_t.ext O104.2
   obtain ⟨T106, X106, e106, st106⟩ := getS2 X104 hx hZ hown (host := "") (Or.inl (own_w hw 253 rfl)) Via.refl e104 f105 (g := (mkF m 62 #[vi (ic / (100 : Int32)), vi ix, vr buf, vi (ic / (100 : Int32)), vi (((ic / (100 : Int32)) * (100 : Int32)) - ic), vi ((cp + (-1 : Int32)) + (-1 : Int32)), vi ng] [(.int ((cp + (-1 : Int32)) + (-1 : Int32))), (.ref buf)])) rfl (hb hby own_d24_62)
   refine own_st (T' := T106) (g' := (mkF m 65 #[vi (ic / (100 : Int32)), vi ix, vr buf, vi (ic / (100 : Int32)), vi (((ic / (100 : Int32)) * (100 : Int32)) - ic), vi ((cp + (-1 : Int32)) + (-1 : Int32)), vi ng] [(.ref d2), (.int ((cp + (-1 : Int32)) + (-1 : Int32))), (.ref buf)])) st106 ?_
   refine own_st (T' := T106) (g' := (mkF m 67 #[vi (ic / (100 : Int32)), vi ix, vr buf, vi (ic / (100 : Int32)), vi (((ic / (100 : Int32)) * (100 : Int32)) - ic), vi ((cp + (-1 : Int32)) + (-1 : Int32)), vi ng] [(.int (((ic / (100 : Int32)) * (100 : Int32)) - ic)), (.ref d2), (.int ((cp + (-1 : Int32)) + (-1 : Int32))), (.ref buf)])) (fun t k => ?_) ?_
   ·refine XS.iload X106.here hx rfl (hb hby own_d24_65) rfl ?_
    exact k
   have f107 := V_t.ext O104.2
   obtain ⟨cl108, Ar108, q108, S108, M108, H108, G108⟩ := id f107
   refine own_st (T' := T106) (g' := (mkF m 68 #[vi (ic / (100 : Int32)), vi ix, vr buf, vi (ic / (100 : Int32)), vi (((ic / (100 : Int32)) * (100 : Int32)) - ic), vi ((cp + (-1 : Int32)) + (-1 : Int32)), vi ng] [(.int (own_dig sv 1)), (.int ((cp + (-1 : Int32)) + (-1 : Int32))), (.ref buf)])) (fun t k => ?_) ?_
   ·refine X106.baloadBytes hx (j := (((ic / (100 : Int32)) * (100 : Int32)) - ic)) (v := (.int (own_dig sv 1))) (by rw [e106]; exact Ar108.1) (State.isArrayOf_alike hZ.alike Ar108.2.1) Ar108.2.2 (inb_of S108 (own_in100 (own_rs hi))) (Has.at H108 (inb_of S108 (own_in100 (own_rs hi))) ((own_lget own_tab2 ((((ic / (100 : Int32)) * (100 : Int32)) - ic)).toNatClampNeg).trans (congrArg Value.int (own_rd2 (own_rs hi))))) (g := (mkF m 67 #[vi (ic / (100 : Int32)), vi ix, vr buf, vi (ic / (100 : Int32)), vi (((ic / (100 : Int32)) * (100 : Int32)) - ic), vi ((cp + (-1 : Int32)) + (-1 : Int32)), vi ng] [(.int (((ic / (100 : Int32)) * (100 : Int32)) - ic)), (.ref d2), (.int ((cp + (-1 : Int32)) + (-1 : Int32))), (.ref buf)])) rfl rfl (hb hby own_d24_67) _ ?_
    exact k
   obtain ⟨cl109, Ar109, q109, S109, M109, H109, G109⟩ := id fw104
   obtain ⟨T110, h110, X110, e110, W110, st110⟩ := stB X106 hx hZ e106 Ar109 (j := ((cp + (-1 : Int32)) + (-1 : Int32))) (inb_of S109 (own_in34 hc2 (by omega))) (g := (mkF m 68 #[vi (ic / (100 : Int32)), vi ix, vr buf, vi (ic / (100 : Int32)), vi (((ic / (100 : Int32)) * (100 : Int32)) - ic), vi ((cp + (-1 : Int32)) + (-1 : Int32)), vi ng] [(.int (own_dig sv 1)), (.int ((cp + (-1 : Int32)) + (-1 : Int32))), (.ref buf)])) rfl rfl (hb hby own_d24_68)
   have N110 := Fr.snoc X110 N104 g_b
   have K110 : Keep h0 h110 [buf] := K104.wr W110 (Or.inl (List.mem_of_getElem? (i := 0) rfl))
   have Z110 : n0 ≤ h110.size := Nat.le_trans Z104 (Keep.of_wr W110).1
   have O110 := O104.wr W110 g_b
   have fw110 := (show Arv Z h110 buf kb .byte (34 : Int32) (((own_wr sv pp 1 bs).set (((cp + (-1 : Int32)) + (-1 : Int32))).toNatClampNeg (own_dig sv 1)).map Value.int) (.int 0) by have q := Arv.set Ar109 q109 S109 M109 H109 G109 (fits_nar_byte _) W110 ((((cp + (-1 : Int32)) + (-1 : Int32))).toNatClampNeg) rfl (by rw [List.length_map, own_wr_len, hbl, own_clamp hc2]; omega); rw [own_lset, own_dig_id sv 1] at q; exact q)
   rw [own_wr_s hc2] at fw110
   refine own_st (T' := T110) (g' := (mkF m 69 #[vi (ic / (100 : Int32)), vi ix, vr buf, vi (ic / (100 : Int32)), vi (((ic / (100 : Int32)) * (100 : Int32)) - ic), vi ((cp + (-1 : Int32)) + (-1 : Int32)), vi ng] [])) st110 ?_
   refine own_st (T' := T110) (g' := (mkF m 22 #[vi (ic / (100 : Int32)), vi ix, vr buf, vi (ic / (100 : Int32)), vi (((ic / (100 : Int32)) * (100 : Int32)) - ic), vi ((cp + (-1 : Int32)) + (-1 : Int32)), vi ng] [])) (fun t k => ?_) ?_
   ·refine XS.goto X110.here hx rfl (pc0 := 69) (pc' := 22) rfl (hb hby own_d24_69) (by decide) (by decide) ?_
    exact k
   exact J2 _ _ _ _ ng _ (own_qs hi) (own_hge h100) (by rw [hc2]; congr 1) fw110 K110 O110 Z110 hng T110 _ X110 N110 e110
 refine own_st (T' := s₁) (g' := (mkF m 4 #[vi sv, vi ix, vr buf, .unset, .unset, vi ix, .unset] [(.int sv)])) (fun t k => ?_) ?_
 ·refine XS.iloadN X0.here hx rfl (hb hby own_d24_0) rfl ?_
  refine XS.istore X0.here hx rfl (hb hby own_d24_1) rfl (l' := #[vi sv, vi ix, vr buf, .unset, .unset, vi ix, .unset]) rfl ?_
  refine XS.iloadN X0.here hx rfl (hb hby own_d24_3) rfl ?_
  exact k
 by_cases hneg : sv < (0 : Int32)
 ·refine own_st (T' := s₁) (g' := (mkF m 22 #[vi sv, vi ix, vr buf, .unset, .unset, vi ix, vi 1] [])) (fun t k => ?_) ?_
  ·refine XS.ifNo X0.here hx rfl (hb hby own_d24_4) rfl ((if0 _ _).trans (tlt hneg).2.1) ?_
   refine XS.iconst X0.here hx rfl (hb hby own_d24_7) ?_
   refine XS.goto X0.here hx rfl (pc0 := 8) (pc' := 12) rfl (hb hby own_d24_8) (by decide) (by decide) ?_
   refine XS.istore X0.here hx rfl (hb hby own_d24_12) rfl (l' := #[vi sv, vi ix, vr buf, .unset, .unset, vi ix, vi 1]) rfl ?_
   refine XS.iload X0.here hx rfl (hb hby own_d24_14) rfl ?_
   refine XS.ifYes X0.here hx rfl (pc0 := 16) (pc' := 22) rfl (hb hby own_d24_16) rfl ((if0 _ _).trans (feq (by decide : ¬ ((1 : Int32) = (0 : Int32)))).2) (by decide) (by decide) ?_
   exact k
  exact J0 _ _ (1 : Int32) _ (own_hi1 hneg) (by rw [hix]; rfl) V_b (Keep.refl h0 [buf]) O0 Z0 (Or.inl ⟨rfl, hneg⟩) s₁ _ X0 N0 e0
 ·refine own_st (T' := s₁) (g' := (mkF m 22 #[vi (-sv), vi ix, vr buf, .unset, .unset, vi ix, vi 0] [])) (fun t k => ?_) ?_
  ·refine XS.ifYes X0.here hx rfl (pc0 := 4) (pc' := 11) rfl (hb hby own_d24_4) rfl ((if0 _ _).trans (flt hneg).2.1) (by decide) (by decide) ?_
   refine XS.iconst X0.here hx rfl (hb hby own_d24_11) ?_
   refine XS.istore X0.here hx rfl (hb hby own_d24_12) rfl (l' := #[vi sv, vi ix, vr buf, .unset, .unset, vi ix, vi 0]) rfl ?_
   refine XS.iload X0.here hx rfl (hb hby own_d24_14) rfl ?_
   refine XS.ifNo X0.here hx rfl (hb hby own_d24_16) rfl ((if0 _ _).trans (teq (rfl : (0 : Int32) = (0 : Int32))).2) ?_
   refine XS.iloadN X0.here hx rfl (hb hby own_d24_19) rfl ?_
   refine XS.ineg X0.here hx rfl (hb hby own_d24_20) rfl ?_
   refine XS.istoreN X0.here hx rfl (hb hby own_d24_21) rfl (l' := #[vi (-sv), vi ix, vr buf, .unset, .unset, vi ix, vi 0]) rfl ?_
   exact k
  exact J0 _ _ (0 : Int32) _ (own_hi0 hneg) (by rw [hix]; rfl) V_b (Keep.refl h0 [buf]) O0 Z0 (Or.inr ⟨rfl, hneg⟩) s₁ _ X0 N0 e0
def own_r22 : Room := { frames := 0, cells := 0, slots := 0, locals := 0 }
theorem own_rm22 (l : Launch) (Z : State) (a0 : Array Value) (hw : own_W a0 Z) (sv : Int32) (h0 : Heap) (n0 : Nat) (Z0 : n0 ≤ h0.size) :
  own_MF l Z own_y1 (Jvm.Cond.code own_y1 jdk_33_method_13_code 4 (some .int)) [] own_r22 #[(.int sv)] h0 (own_P h0 n0 (.int (own_sz sv))) := by
 refine own_open (plainFor_of_name own_pn0) hisR (Ls := #[vi sv, .unset, .unset, .unset]) ?_
 intro p e s m below meth c s₁ Bd hZ hx hby hml hown X0 e0
 have N0 := Fr.nil n0
 refine own_st (T' := s₁) (g' := (mkF m 3 #[vi sv, vi 1, .unset, .unset] [(.int sv)])) (fun t k => ?_) ?_
 ·refine XS.iconst X0.here hx rfl (hb hby own_d22_0) ?_
  refine XS.istoreN X0.here hx rfl (hb hby own_d22_1) rfl (l' := #[vi sv, vi 1, .unset, .unset]) rfl ?_
  refine XS.iloadN X0.here hx rfl (hb hby own_d22_2) rfl ?_
  exact k
 by_cases hneg : sv < (0 : Int32)
 ·refine own_st (T' := s₁) (g' := (mkF m 24 #[vi sv, vi 1, vi (-10), vi 1] [(.int (-10)), (.int sv)])) (fun t k => ?_) ?_
  ·refine XS.ifYes X0.here hx rfl (pc0 := 3) (pc' := 11) rfl (hb hby own_d22_3) rfl ((if0 _ _).trans (tlt hneg).1) (by decide) (by decide) ?_
   refine XS.bipush X0.here hx rfl (hb hby own_d22_11) ?_
   refine XS.istoreN X0.here hx rfl (hb hby own_d22_13) rfl (l' := #[vi sv, vi 1, vi (-10), .unset]) rfl ?_
   refine XS.iconst X0.here hx rfl (hb hby own_d22_14) ?_
   refine XS.istoreN X0.here hx rfl (hb hby own_d22_15) rfl (l' := #[vi sv, vi 1, vi (-10), vi 1]) rfl ?_
   refine XS.iloadN X0.here hx rfl (hb hby own_d22_16) rfl ?_
   refine XS.bipush X0.here hx rfl (hb hby own_d22_17) ?_
   refine XS.icmpNo X0.here hx rfl (hb hby own_d22_19) rfl (tlt (by decide : (1 : Int32) < (10 : Int32))).2.1 ?_
   refine XS.iloadN X0.here hx rfl (hb hby own_d22_22) rfl ?_
   refine XS.iloadN X0.here hx rfl (hb hby own_d22_23) rfl ?_
   exact k
  by_cases h1 : (-10 : Int32) < sv
  ·refine own_st (T' := s₁) (g' := (mkF m 30 #[vi sv, vi 1, vi (-10), vi 1] [(.int 2)])) (fun t k => ?_) ?_
   ·refine XS.icmpNo X0.here hx rfl (hb hby own_d22_24) rfl (tlt h1).2.2.2 ?_
    refine XS.iloadN X0.here hx rfl (hb hby own_d22_27) rfl ?_
    refine XS.iloadN X0.here hx rfl (hb hby own_d22_28) rfl ?_
    refine XS.iadd X0.here hx rfl (hb hby own_d22_29) rfl ?_
    exact k
   exact own_retI X0 hx Bd (hb hby own_d22_30) e0 (⟨own_szn hneg (own_se1 (own_hi1 hneg) h1) (by decide), N0, rfl⟩) (by decide) (by decide)
  ·refine own_st (T' := s₁) (g' := (mkF m 24 #[vi sv, vi 1, vi (-100), vi 2] [(.int (-100)), (.int sv)])) (fun t k => ?_) ?_
   ·refine XS.icmpYes X0.here hx rfl (pc0 := 24) (pc' := 31) rfl (hb hby own_d22_24) rfl (flt h1).2.2.2 (by decide) (by decide) ?_
    refine XS.bipush X0.here hx rfl (hb hby own_d22_31) ?_
    refine XS.iloadN X0.here hx rfl (hb hby own_d22_33) rfl ?_
    refine XS.imul X0.here hx rfl (hb hby own_d22_34) rfl ?_
    refine XS.istoreN X0.here hx rfl (hb hby own_d22_35) rfl (l' := #[vi sv, vi 1, vi (-100), vi 1]) rfl ?_
    refine XS.iinc X0.here hx rfl (hb hby own_d22_36) rfl (l' := #[vi sv, vi 1, vi (-100), vi 2]) rfl ?_
    refine XS.goto X0.here hx rfl (pc0 := 39) (pc' := 16) rfl (hb hby own_d22_39) (by decide) (by decide) ?_
    refine XS.iloadN X0.here hx rfl (hb hby own_d22_16) rfl ?_
    refine XS.bipush X0.here hx rfl (hb hby own_d22_17) ?_
    refine XS.icmpNo X0.here hx rfl (hb hby own_d22_19) rfl (tlt (by decide : (2 : Int32) < (10 : Int32))).2.1 ?_
    refine XS.iloadN X0.here hx rfl (hb hby own_d22_22) rfl ?_
    refine XS.iloadN X0.here hx rfl (hb hby own_d22_23) rfl ?_
    exact k
   by_cases h2 : (-100 : Int32) < sv
   ·refine own_st (T' := s₁) (g' := (mkF m 30 #[vi sv, vi 1, vi (-100), vi 2] [(.int 3)])) (fun t k => ?_) ?_
    ·refine XS.icmpNo X0.here hx rfl (hb hby own_d22_24) rfl (tlt h2).2.2.2 ?_
     refine XS.iloadN X0.here hx rfl (hb hby own_d22_27) rfl ?_
     refine XS.iloadN X0.here hx rfl (hb hby own_d22_28) rfl ?_
     refine XS.iadd X0.here hx rfl (hb hby own_d22_29) rfl ?_
     exact k
    exact own_retI X0 hx Bd (hb hby own_d22_30) e0 (⟨own_szn hneg (own_se2 (own_hi1 hneg) h1 h2) (by decide), N0, rfl⟩) (by decide) (by decide)
   ·refine own_st (T' := s₁) (g' := (mkF m 24 #[vi sv, vi 1, vi (-1000), vi 3] [(.int (-1000)), (.int sv)])) (fun t k => ?_) ?_
    ·refine XS.icmpYes X0.here hx rfl (pc0 := 24) (pc' := 31) rfl (hb hby own_d22_24) rfl (flt h2).2.2.2 (by decide) (by decide) ?_
     refine XS.bipush X0.here hx rfl (hb hby own_d22_31) ?_
     refine XS.iloadN X0.here hx rfl (hb hby own_d22_33) rfl ?_
     refine XS.imul X0.here hx rfl (hb hby own_d22_34) rfl ?_
     refine XS.istoreN X0.here hx rfl (hb hby own_d22_35) rfl (l' := #[vi sv, vi 1, vi (-1000), vi 2]) rfl ?_
     refine XS.iinc X0.here hx rfl (hb hby own_d22_36) rfl (l' := #[vi sv, vi 1, vi (-1000), vi 3]) rfl ?_
     refine XS.goto X0.here hx rfl (pc0 := 39) (pc' := 16) rfl (hb hby own_d22_39) (by decide) (by decide) ?_
     refine XS.iloadN X0.here hx rfl (hb hby own_d22_16) rfl ?_
     refine XS.bipush X0.here hx rfl (hb hby own_d22_17) ?_
     refine XS.icmpNo X0.here hx rfl (hb hby own_d22_19) rfl (tlt (by decide : (3 : Int32) < (10 : Int32))).2.1 ?_
     refine XS.iloadN X0.here hx rfl (hb hby own_d22_22) rfl ?_
     refine XS.iloadN X0.here hx rfl (hb hby own_d22_23) rfl ?_
     exact k
    by_cases h3 : (-1000 : Int32) < sv
    ·refine own_st (T' := s₁) (g' := (mkF m 30 #[vi sv, vi 1, vi (-1000), vi 3] [(.int 4)])) (fun t k => ?_) ?_
     ·refine XS.icmpNo X0.here hx rfl (hb hby own_d22_24) rfl (tlt h3).2.2.2 ?_
      refine XS.iloadN X0.here hx rfl (hb hby own_d22_27) rfl ?_
      refine XS.iloadN X0.here hx rfl (hb hby own_d22_28) rfl ?_
      refine XS.iadd X0.here hx rfl (hb hby own_d22_29) rfl ?_
      exact k
     exact own_retI X0 hx Bd (hb hby own_d22_30) e0 (⟨own_szn hneg (own_se3 (own_hi1 hneg) h2 h3) (by decide), N0, rfl⟩) (by decide) (by decide)
    ·refine own_st (T' := s₁) (g' := (mkF m 24 #[vi sv, vi 1, vi (-10000), vi 4] [(.int (-10000)), (.int sv)])) (fun t k => ?_) ?_
     ·refine XS.icmpYes X0.here hx rfl (pc0 := 24) (pc' := 31) rfl (hb hby own_d22_24) rfl (flt h3).2.2.2 (by decide) (by decide) ?_
      refine XS.bipush X0.here hx rfl (hb hby own_d22_31) ?_
      refine XS.iloadN X0.here hx rfl (hb hby own_d22_33) rfl ?_
      refine XS.imul X0.here hx rfl (hb hby own_d22_34) rfl ?_
      refine XS.istoreN X0.here hx rfl (hb hby own_d22_35) rfl (l' := #[vi sv, vi 1, vi (-10000), vi 3]) rfl ?_
      refine XS.iinc X0.here hx rfl (hb hby own_d22_36) rfl (l' := #[vi sv, vi 1, vi (-10000), vi 4]) rfl ?_
      refine XS.goto X0.here hx rfl (pc0 := 39) (pc' := 16) rfl (hb hby own_d22_39) (by decide) (by decide) ?_
      refine XS.iloadN X0.here hx rfl (hb hby own_d22_16) rfl ?_
      refine XS.bipush X0.here hx rfl (hb hby own_d22_17) ?_
      refine XS.icmpNo X0.here hx rfl (hb hby own_d22_19) rfl (tlt (by decide : (4 : Int32) < (10 : Int32))).2.1 ?_
      refine XS.iloadN X0.here hx rfl (hb hby own_d22_22) rfl ?_
      refine XS.iloadN X0.here hx rfl (hb hby own_d22_23) rfl ?_
      exact k
     by_cases h4 : (-10000 : Int32) < sv
     ·refine own_st (T' := s₁) (g' := (mkF m 30 #[vi sv, vi 1, vi (-10000), vi 4] [(.int 5)])) (fun t k => ?_) ?_
      ·refine XS.icmpNo X0.here hx rfl (hb hby own_d22_24) rfl (tlt h4).2.2.2 ?_
       refine XS.iloadN X0.here hx rfl (hb hby own_d22_27) rfl ?_
       refine XS.iloadN X0.here hx rfl (hb hby own_d22_28) rfl ?_
       refine XS.iadd X0.here hx rfl (hb hby own_d22_29) rfl ?_
       exact k
      exact own_retI X0 hx Bd (hb hby own_d22_30) e0 (⟨own_szn hneg (own_se4 (own_hi1 hneg) h3 h4) (by decide), N0, rfl⟩) (by decide) (by decide)
     ·refine own_st (T' := s₁) (g' := (mkF m 24 #[vi sv, vi 1, vi (-100000), vi 5] [(.int (-100000)), (.int sv)])) (fun t k => ?_) ?_
      ·refine XS.icmpYes X0.here hx rfl (pc0 := 24) (pc' := 31) rfl (hb hby own_d22_24) rfl (flt h4).2.2.2 (by decide) (by decide) ?_
       refine XS.bipush X0.here hx rfl (hb hby own_d22_31) ?_
       refine XS.iloadN X0.here hx rfl (hb hby own_d22_33) rfl ?_
       refine XS.imul X0.here hx rfl (hb hby own_d22_34) rfl ?_
       refine XS.istoreN X0.here hx rfl (hb hby own_d22_35) rfl (l' := #[vi sv, vi 1, vi (-100000), vi 4]) rfl ?_
       refine XS.iinc X0.here hx rfl (hb hby own_d22_36) rfl (l' := #[vi sv, vi 1, vi (-100000), vi 5]) rfl ?_
       refine XS.goto X0.here hx rfl (pc0 := 39) (pc' := 16) rfl (hb hby own_d22_39) (by decide) (by decide) ?_
       refine XS.iloadN X0.here hx rfl (hb hby own_d22_16) rfl ?_
       refine XS.bipush X0.here hx rfl (hb hby own_d22_17) ?_
       refine XS.icmpNo X0.here hx rfl (hb hby own_d22_19) rfl (tlt (by decide : (5 : Int32) < (10 : Int32))).2.1 ?_
       refine XS.iloadN X0.here hx rfl (hb hby own_d22_22) rfl ?_
       refine XS.iloadN X0.here hx rfl (hb hby own_d22_23) rfl ?_
       exact k
      by_cases h5 : (-100000 : Int32) < sv
      ·refine own_st (T' := s₁) (g' := (mkF m 30 #[vi sv, vi 1, vi (-100000), vi 5] [(.int 6)])) (fun t k => ?_) ?_
       ·refine XS.icmpNo X0.here hx rfl (hb hby own_d22_24) rfl (tlt h5).2.2.2 ?_
        refine XS.iloadN X0.here hx rfl (hb hby own_d22_27) rfl ?_
        refine XS.iloadN X0.here hx rfl (hb hby own_d22_28) rfl ?_
        refine XS.iadd X0.here hx rfl (hb hby own_d22_29) rfl ?_
        exact k
       exact own_retI X0 hx Bd (hb hby own_d22_30) e0 (⟨own_szn hneg (own_se5 (own_hi1 hneg) h4 h5) (by decide), N0, rfl⟩) (by decide) (by decide)
      ·refine own_st (T' := s₁) (g' := (mkF m 24 #[vi sv, vi 1, vi (-1000000), vi 6] [(.int (-1000000)), (.int sv)])) (fun t k => ?_) ?_
       ·refine XS.icmpYes X0.here hx rfl (pc0 := 24) (pc' := 31) rfl (hb hby own_d22_24) rfl (flt h5).2.2.2 (by decide) (by decide) ?_
        refine XS.bipush X0.here hx rfl (hb hby own_d22_31) ?_
        refine XS.iloadN X0.here hx rfl (hb hby own_d22_33) rfl ?_
        refine XS.imul X0.here hx rfl (hb hby own_d22_34) rfl ?_
        refine XS.istoreN X0.here hx rfl (hb hby own_d22_35) rfl (l' := #[vi sv, vi 1, vi (-1000000), vi 5]) rfl ?_
        refine XS.iinc X0.here hx rfl (hb hby own_d22_36) rfl (l' := #[vi sv, vi 1, vi (-1000000), vi 6]) rfl ?_
        refine XS.goto X0.here hx rfl (pc0 := 39) (pc' := 16) rfl (hb hby own_d22_39) (by decide) (by decide) ?_
        refine XS.iloadN X0.here hx rfl (hb hby own_d22_16) rfl ?_
        refine XS.bipush X0.here hx rfl (hb hby own_d22_17) ?_
        refine XS.icmpNo X0.here hx rfl (hb hby own_d22_19) rfl (tlt (by decide : (6 : Int32) < (10 : Int32))).2.1 ?_
        refine XS.iloadN X0.here hx rfl (hb hby own_d22_22) rfl ?_
        refine XS.iloadN X0.here hx rfl (hb hby own_d22_23) rfl ?_
        exact k
       by_cases h6 : (-1000000 : Int32) < sv
       ·refine own_st (T' := s₁) (g' := (mkF m 30 #[vi sv, vi 1, vi (-1000000), vi 6] [(.int 7)])) (fun t k => ?_) ?_
        ·refine XS.icmpNo X0.here hx rfl (hb hby own_d22_24) rfl (tlt h6).2.2.2 ?_
         refine XS.iloadN X0.here hx rfl (hb hby own_d22_27) rfl ?_
         refine XS.iloadN X0.here hx rfl (hb hby own_d22_28) rfl ?_
         refine XS.iadd X0.here hx rfl (hb hby own_d22_29) rfl ?_
         exact k
        exact own_retI X0 hx Bd (hb hby own_d22_30) e0 (⟨own_szn hneg (own_se6 (own_hi1 hneg) h5 h6) (by decide), N0, rfl⟩) (by decide) (by decide)
       ·refine own_st (T' := s₁) (g' := (mkF m 24 #[vi sv, vi 1, vi (-10000000), vi 7] [(.int (-10000000)), (.int sv)])) (fun t k => ?_) ?_
        ·refine XS.icmpYes X0.here hx rfl (pc0 := 24) (pc' := 31) rfl (hb hby own_d22_24) rfl (flt h6).2.2.2 (by decide) (by decide) ?_
         refine XS.bipush X0.here hx rfl (hb hby own_d22_31) ?_
         refine XS.iloadN X0.here hx rfl (hb hby own_d22_33) rfl ?_
         refine XS.imul X0.here hx rfl (hb hby own_d22_34) rfl ?_
         refine XS.istoreN X0.here hx rfl (hb hby own_d22_35) rfl (l' := #[vi sv, vi 1, vi (-10000000), vi 6]) rfl ?_
         refine XS.iinc X0.here hx rfl (hb hby own_d22_36) rfl (l' := #[vi sv, vi 1, vi (-10000000), vi 7]) rfl ?_
         refine XS.goto X0.here hx rfl (pc0 := 39) (pc' := 16) rfl (hb hby own_d22_39) (by decide) (by decide) ?_
         refine XS.iloadN X0.here hx rfl (hb hby own_d22_16) rfl ?_
         refine XS.bipush X0.here hx rfl (hb hby own_d22_17) ?_
         refine XS.icmpNo X0.here hx rfl (hb hby own_d22_19) rfl (tlt (by decide : (7 : Int32) < (10 : Int32))).2.1 ?_
         refine XS.iloadN X0.here hx rfl (hb hby own_d22_22) rfl ?_
         refine XS.iloadN X0.here hx rfl (hb hby own_d22_23) rfl ?_
         exact k
        by_cases h7 : (-10000000 : Int32) < sv
        ·refine own_st (T' := s₁) (g' := (mkF m 30 #[vi sv, vi 1, vi (-10000000), vi 7] [(.int 8)])) (fun t k => ?_) ?_
         ·refine XS.icmpNo X0.here hx rfl (hb hby own_d22_24) rfl (tlt h7).2.2.2 ?_
          refine XS.iloadN X0.here hx rfl (hb hby own_d22_27) rfl ?_
          refine XS.iloadN X0.here hx rfl (hb hby own_d22_28) rfl ?_
          refine XS.iadd X0.here hx rfl (hb hby own_d22_29) rfl ?_
          exact k
         exact own_retI X0 hx Bd (hb hby own_d22_30) e0 (⟨own_szn hneg (own_se7 (own_hi1 hneg) h6 h7) (by decide), N0, rfl⟩) (by decide) (by decide)
        ·refine own_st (T' := s₁) (g' := (mkF m 24 #[vi sv, vi 1, vi (-100000000), vi 8] [(.int (-100000000)), (.int sv)])) (fun t k => ?_) ?_
         ·refine XS.icmpYes X0.here hx rfl (pc0 := 24) (pc' := 31) rfl (hb hby own_d22_24) rfl (flt h7).2.2.2 (by decide) (by decide) ?_
          refine XS.bipush X0.here hx rfl (hb hby own_d22_31) ?_
          refine XS.iloadN X0.here hx rfl (hb hby own_d22_33) rfl ?_
          refine XS.imul X0.here hx rfl (hb hby own_d22_34) rfl ?_
          refine XS.istoreN X0.here hx rfl (hb hby own_d22_35) rfl (l' := #[vi sv, vi 1, vi (-100000000), vi 7]) rfl ?_
          refine XS.iinc X0.here hx rfl (hb hby own_d22_36) rfl (l' := #[vi sv, vi 1, vi (-100000000), vi 8]) rfl ?_
          refine XS.goto X0.here hx rfl (pc0 := 39) (pc' := 16) rfl (hb hby own_d22_39) (by decide) (by decide) ?_
          refine XS.iloadN X0.here hx rfl (hb hby own_d22_16) rfl ?_
          refine XS.bipush X0.here hx rfl (hb hby own_d22_17) ?_
          refine XS.icmpNo X0.here hx rfl (hb hby own_d22_19) rfl (tlt (by decide : (8 : Int32) < (10 : Int32))).2.1 ?_
          refine XS.iloadN X0.here hx rfl (hb hby own_d22_22) rfl ?_
          refine XS.iloadN X0.here hx rfl (hb hby own_d22_23) rfl ?_
          exact k
         by_cases h8 : (-100000000 : Int32) < sv
         ·refine own_st (T' := s₁) (g' := (mkF m 30 #[vi sv, vi 1, vi (-100000000), vi 8] [(.int 9)])) (fun t k => ?_) ?_
          ·refine XS.icmpNo X0.here hx rfl (hb hby own_d22_24) rfl (tlt h8).2.2.2 ?_
           refine XS.iloadN X0.here hx rfl (hb hby own_d22_27) rfl ?_
           refine XS.iloadN X0.here hx rfl (hb hby own_d22_28) rfl ?_
           refine XS.iadd X0.here hx rfl (hb hby own_d22_29) rfl ?_
           exact k
          exact own_retI X0 hx Bd (hb hby own_d22_30) e0 (⟨own_szn hneg (own_se8 (own_hi1 hneg) h7 h8) (by decide), N0, rfl⟩) (by decide) (by decide)
         ·refine own_st (T' := s₁) (g' := (mkF m 24 #[vi sv, vi 1, vi (-1000000000), vi 9] [(.int (-1000000000)), (.int sv)])) (fun t k => ?_) ?_
          ·refine XS.icmpYes X0.here hx rfl (pc0 := 24) (pc' := 31) rfl (hb hby own_d22_24) rfl (flt h8).2.2.2 (by decide) (by decide) ?_
           refine XS.bipush X0.here hx rfl (hb hby own_d22_31) ?_
           refine XS.iloadN X0.here hx rfl (hb hby own_d22_33) rfl ?_
           refine XS.imul X0.here hx rfl (hb hby own_d22_34) rfl ?_
           refine XS.istoreN X0.here hx rfl (hb hby own_d22_35) rfl (l' := #[vi sv, vi 1, vi (-1000000000), vi 8]) rfl ?_
           refine XS.iinc X0.here hx rfl (hb hby own_d22_36) rfl (l' := #[vi sv, vi 1, vi (-1000000000), vi 9]) rfl ?_
           refine XS.goto X0.here hx rfl (pc0 := 39) (pc' := 16) rfl (hb hby own_d22_39) (by decide) (by decide) ?_
           refine XS.iloadN X0.here hx rfl (hb hby own_d22_16) rfl ?_
           refine XS.bipush X0.here hx rfl (hb hby own_d22_17) ?_
           refine XS.icmpNo X0.here hx rfl (hb hby own_d22_19) rfl (tlt (by decide : (9 : Int32) < (10 : Int32))).2.1 ?_
           refine XS.iloadN X0.here hx rfl (hb hby own_d22_22) rfl ?_
           refine XS.iloadN X0.here hx rfl (hb hby own_d22_23) rfl ?_
           exact k
          by_cases h9 : (-1000000000 : Int32) < sv
          ·refine own_st (T' := s₁) (g' := (mkF m 30 #[vi sv, vi 1, vi (-1000000000), vi 9] [(.int 10)])) (fun t k => ?_) ?_
           ·refine XS.icmpNo X0.here hx rfl (hb hby own_d22_24) rfl (tlt h9).2.2.2 ?_
            refine XS.iloadN X0.here hx rfl (hb hby own_d22_27) rfl ?_
            refine XS.iloadN X0.here hx rfl (hb hby own_d22_28) rfl ?_
            refine XS.iadd X0.here hx rfl (hb hby own_d22_29) rfl ?_
            exact k
           exact own_retI X0 hx Bd (hb hby own_d22_30) e0 (⟨own_szn hneg (own_se9 (own_hi1 hneg) h8 h9) (by decide), N0, rfl⟩) (by decide) (by decide)
          ·refine own_st (T' := s₁) (g' := (mkF m 46 #[vi sv, vi 1, vi (-1410065408), vi 10] [(.int 11)])) (fun t k => ?_) ?_
           ·refine XS.icmpYes X0.here hx rfl (pc0 := 24) (pc' := 31) rfl (hb hby own_d22_24) rfl (flt h9).2.2.2 (by decide) (by decide) ?_
            refine XS.bipush X0.here hx rfl (hb hby own_d22_31) ?_
            refine XS.iloadN X0.here hx rfl (hb hby own_d22_33) rfl ?_
            refine XS.imul X0.here hx rfl (hb hby own_d22_34) rfl ?_
            refine XS.istoreN X0.here hx rfl (hb hby own_d22_35) rfl (l' := #[vi sv, vi 1, vi (-1410065408), vi 9]) rfl ?_
            refine XS.iinc X0.here hx rfl (hb hby own_d22_36) rfl (l' := #[vi sv, vi 1, vi (-1410065408), vi 10]) rfl ?_
            refine XS.goto X0.here hx rfl (pc0 := 39) (pc' := 16) rfl (hb hby own_d22_39) (by decide) (by decide) ?_
            refine XS.iloadN X0.here hx rfl (hb hby own_d22_16) rfl ?_
            refine XS.bipush X0.here hx rfl (hb hby own_d22_17) ?_
            refine XS.icmpYes X0.here hx rfl (pc0 := 19) (pc' := 42) rfl (hb hby own_d22_19) rfl (flt Int32.lt_irrefl).2.1 (by decide) (by decide) ?_
            refine XS.bipush X0.here hx rfl (hb hby own_d22_42) ?_
            refine XS.iloadN X0.here hx rfl (hb hby own_d22_44) rfl ?_
            refine XS.iadd X0.here hx rfl (hb hby own_d22_45) rfl ?_
            exact k
           exact own_retI X0 hx Bd (hb hby own_d22_46) e0 (⟨own_szn hneg (own_se10 (own_hi1 hneg) h9) (by decide), N0, rfl⟩) (by decide) (by decide)
 ·refine own_st (T' := s₁) (g' := (mkF m 24 #[vi (-sv), vi 0, vi (-10), vi 1] [(.int (-10)), (.int (-sv))])) (fun t k => ?_) ?_
  ·refine XS.ifNo X0.here hx rfl (hb hby own_d22_3) rfl ((if0 _ _).trans (flt hneg).1) ?_
   refine XS.iconst X0.here hx rfl (hb hby own_d22_6) ?_
   refine XS.istoreN X0.here hx rfl (hb hby own_d22_7) rfl (l' := #[vi sv, vi 0, .unset, .unset]) rfl ?_
   refine XS.iloadN X0.here hx rfl (hb hby own_d22_8) rfl ?_
   refine XS.ineg X0.here hx rfl (hb hby own_d22_9) rfl ?_
   refine XS.istoreN X0.here hx rfl (hb hby own_d22_10) rfl (l' := #[vi (-sv), vi 0, .unset, .unset]) rfl ?_
   refine XS.bipush X0.here hx rfl (hb hby own_d22_11) ?_
   refine XS.istoreN X0.here hx rfl (hb hby own_d22_13) rfl (l' := #[vi (-sv), vi 0, vi (-10), .unset]) rfl ?_
   refine XS.iconst X0.here hx rfl (hb hby own_d22_14) ?_
   refine XS.istoreN X0.here hx rfl (hb hby own_d22_15) rfl (l' := #[vi (-sv), vi 0, vi (-10), vi 1]) rfl ?_
   refine XS.iloadN X0.here hx rfl (hb hby own_d22_16) rfl ?_
   refine XS.bipush X0.here hx rfl (hb hby own_d22_17) ?_
   refine XS.icmpNo X0.here hx rfl (hb hby own_d22_19) rfl (tlt (by decide : (1 : Int32) < (10 : Int32))).2.1 ?_
   refine XS.iloadN X0.here hx rfl (hb hby own_d22_22) rfl ?_
   refine XS.iloadN X0.here hx rfl (hb hby own_d22_23) rfl ?_
   exact k
  by_cases h1 : (-10 : Int32) < (-sv)
  ·refine own_st (T' := s₁) (g' := (mkF m 30 #[vi (-sv), vi 0, vi (-10), vi 1] [(.int 1)])) (fun t k => ?_) ?_
   ·refine XS.icmpNo X0.here hx rfl (hb hby own_d22_24) rfl (tlt h1).2.2.2 ?_
    refine XS.iloadN X0.here hx rfl (hb hby own_d22_27) rfl ?_
    refine XS.iloadN X0.here hx rfl (hb hby own_d22_28) rfl ?_
    refine XS.iadd X0.here hx rfl (hb hby own_d22_29) rfl ?_
    exact k
   exact own_retI X0 hx Bd (hb hby own_d22_30) e0 (⟨own_szp hneg (own_se1 (own_hi0 hneg) h1) (by decide), N0, rfl⟩) (by decide) (by decide)
  ·refine own_st (T' := s₁) (g' := (mkF m 24 #[vi (-sv), vi 0, vi (-100), vi 2] [(.int (-100)), (.int (-sv))])) (fun t k => ?_) ?_
   ·refine XS.icmpYes X0.here hx rfl (pc0 := 24) (pc' := 31) rfl (hb hby own_d22_24) rfl (flt h1).2.2.2 (by decide) (by decide) ?_
    refine XS.bipush X0.here hx rfl (hb hby own_d22_31) ?_
    refine XS.iloadN X0.here hx rfl (hb hby own_d22_33) rfl ?_
    refine XS.imul X0.here hx rfl (hb hby own_d22_34) rfl ?_
    refine XS.istoreN X0.here hx rfl (hb hby own_d22_35) rfl (l' := #[vi (-sv), vi 0, vi (-100), vi 1]) rfl ?_
    refine XS.iinc X0.here hx rfl (hb hby own_d22_36) rfl (l' := #[vi (-sv), vi 0, vi (-100), vi 2]) rfl ?_
    refine XS.goto X0.here hx rfl (pc0 := 39) (pc' := 16) rfl (hb hby own_d22_39) (by decide) (by decide) ?_
    refine XS.iloadN X0.here hx rfl (hb hby own_d22_16) rfl ?_
    refine XS.bipush X0.here hx rfl (hb hby own_d22_17) ?_
    refine XS.icmpNo X0.here hx rfl (hb hby own_d22_19) rfl (tlt (by decide : (2 : Int32) < (10 : Int32))).2.1 ?_
    refine XS.iloadN X0.here hx rfl (hb hby own_d22_22) rfl ?_
    refine XS.iloadN X0.here hx rfl (hb hby own_d22_23) rfl ?_
    exact k
   by_cases h2 : (-100 : Int32) < (-sv)
   ·refine own_st (T' := s₁) (g' := (mkF m 30 #[vi (-sv), vi 0, vi (-100), vi 2] [(.int 2)])) (fun t k => ?_) ?_
    ·refine XS.icmpNo X0.here hx rfl (hb hby own_d22_24) rfl (tlt h2).2.2.2 ?_
     refine XS.iloadN X0.here hx rfl (hb hby own_d22_27) rfl ?_
     refine XS.iloadN X0.here hx rfl (hb hby own_d22_28) rfl ?_
     refine XS.iadd X0.here hx rfl (hb hby own_d22_29) rfl ?_
     exact k
    exact own_retI X0 hx Bd (hb hby own_d22_30) e0 (⟨own_szp hneg (own_se2 (own_hi0 hneg) h1 h2) (by decide), N0, rfl⟩) (by decide) (by decide)
   ·refine own_st (T' := s₁) (g' := (mkF m 24 #[vi (-sv), vi 0, vi (-1000), vi 3] [(.int (-1000)), (.int (-sv))])) (fun t k => ?_) ?_
    ·refine XS.icmpYes X0.here hx rfl (pc0 := 24) (pc' := 31) rfl (hb hby own_d22_24) rfl (flt h2).2.2.2 (by decide) (by decide) ?_
     refine XS.bipush X0.here hx rfl (hb hby own_d22_31) ?_
     refine XS.iloadN X0.here hx rfl (hb hby own_d22_33) rfl ?_
     refine XS.imul X0.here hx rfl (hb hby own_d22_34) rfl ?_
     refine XS.istoreN X0.here hx rfl (hb hby own_d22_35) rfl (l' := #[vi (-sv), vi 0, vi (-1000), vi 2]) rfl ?_
     refine XS.iinc X0.here hx rfl (hb hby own_d22_36) rfl (l' := #[vi (-sv), vi 0, vi (-1000), vi 3]) rfl ?_
     refine XS.goto X0.here hx rfl (pc0 := 39) (pc' := 16) rfl (hb hby own_d22_39) (by decide) (by decide) ?_
     refine XS.iloadN X0.here hx rfl (hb hby own_d22_16) rfl ?_
     refine XS.bipush X0.here hx rfl (hb hby own_d22_17) ?_
     refine XS.icmpNo X0.here hx rfl (hb hby own_d22_19) rfl (tlt (by decide : (3 : Int32) < (10 : Int32))).2.1 ?_
     refine XS.iloadN X0.here hx rfl (hb hby own_d22_22) rfl ?_
     refine XS.iloadN X0.here hx rfl (hb hby own_d22_23) rfl ?_
     exact k
    by_cases h3 : (-1000 : Int32) < (-sv)
    ·refine own_st (T' := s₁) (g' := (mkF m 30 #[vi (-sv), vi 0, vi (-1000), vi 3] [(.int 3)])) (fun t k => ?_) ?_
     ·refine XS.icmpNo X0.here hx rfl (hb hby own_d22_24) rfl (tlt h3).2.2.2 ?_
      refine XS.iloadN X0.here hx rfl (hb hby own_d22_27) rfl ?_
      refine XS.iloadN X0.here hx rfl (hb hby own_d22_28) rfl ?_
      refine XS.iadd X0.here hx rfl (hb hby own_d22_29) rfl ?_
      exact k
     exact own_retI X0 hx Bd (hb hby own_d22_30) e0 (⟨own_szp hneg (own_se3 (own_hi0 hneg) h2 h3) (by decide), N0, rfl⟩) (by decide) (by decide)
    ·refine own_st (T' := s₁) (g' := (mkF m 24 #[vi (-sv), vi 0, vi (-10000), vi 4] [(.int (-10000)), (.int (-sv))])) (fun t k => ?_) ?_
     ·refine XS.icmpYes X0.here hx rfl (pc0 := 24) (pc' := 31) rfl (hb hby own_d22_24) rfl (flt h3).2.2.2 (by decide) (by decide) ?_
      refine XS.bipush X0.here hx rfl (hb hby own_d22_31) ?_
      refine XS.iloadN X0.here hx rfl (hb hby own_d22_33) rfl ?_
      refine XS.imul X0.here hx rfl (hb hby own_d22_34) rfl ?_
      refine XS.istoreN X0.here hx rfl (hb hby own_d22_35) rfl (l' := #[vi (-sv), vi 0, vi (-10000), vi 3]) rfl ?_
      refine XS.iinc X0.here hx rfl (hb hby own_d22_36) rfl (l' := #[vi (-sv), vi 0, vi (-10000), vi 4]) rfl ?_
      refine XS.goto X0.here hx rfl (pc0 := 39) (pc' := 16) rfl (hb hby own_d22_39) (by decide) (by decide) ?_
      refine XS.iloadN X0.here hx rfl (hb hby own_d22_16) rfl ?_
      refine XS.bipush X0.here hx rfl (hb hby own_d22_17) ?_
      refine XS.icmpNo X0.here hx rfl (hb hby own_d22_19) rfl (tlt (by decide : (4 : Int32) < (10 : Int32))).2.1 ?_
      refine XS.iloadN X0.here hx rfl (hb hby own_d22_22) rfl ?_
      refine XS.iloadN X0.here hx rfl (hb hby own_d22_23) rfl ?_
      exact k
     by_cases h4 : (-10000 : Int32) < (-sv)
     ·refine own_st (T' := s₁) (g' := (mkF m 30 #[vi (-sv), vi 0, vi (-10000), vi 4] [(.int 4)])) (fun t k => ?_) ?_
      ·refine XS.icmpNo X0.here hx rfl (hb hby own_d22_24) rfl (tlt h4).2.2.2 ?_
       refine XS.iloadN X0.here hx rfl (hb hby own_d22_27) rfl ?_
       refine XS.iloadN X0.here hx rfl (hb hby own_d22_28) rfl ?_
       refine XS.iadd X0.here hx rfl (hb hby own_d22_29) rfl ?_
       exact k
      exact own_retI X0 hx Bd (hb hby own_d22_30) e0 (⟨own_szp hneg (own_se4 (own_hi0 hneg) h3 h4) (by decide), N0, rfl⟩) (by decide) (by decide)
     ·refine own_st (T' := s₁) (g' := (mkF m 24 #[vi (-sv), vi 0, vi (-100000), vi 5] [(.int (-100000)), (.int (-sv))])) (fun t k => ?_) ?_
      ·refine XS.icmpYes X0.here hx rfl (pc0 := 24) (pc' := 31) rfl (hb hby own_d22_24) rfl (flt h4).2.2.2 (by decide) (by decide) ?_
       refine XS.bipush X0.here hx rfl (hb hby own_d22_31) ?_
       refine XS.iloadN X0.here hx rfl (hb hby own_d22_33) rfl ?_
       refine XS.imul X0.here hx rfl (hb hby own_d22_34) rfl ?_
       refine XS.istoreN X0.here hx rfl (hb hby own_d22_35) rfl (l' := #[vi (-sv), vi 0, vi (-100000), vi 4]) rfl ?_
       refine XS.iinc X0.here hx rfl (hb hby own_d22_36) rfl (l' := #[vi (-sv), vi 0, vi (-100000), vi 5]) rfl ?_
       refine XS.goto X0.here hx rfl (pc0 := 39) (pc' := 16) rfl (hb hby own_d22_39) (by decide) (by decide) ?_
       refine XS.iloadN X0.here hx rfl (hb hby own_d22_16) rfl ?_
       refine XS.bipush X0.here hx rfl (hb hby own_d22_17) ?_
       refine XS.icmpNo X0.here hx rfl (hb hby own_d22_19) rfl (tlt (by decide : (5 : Int32) < (10 : Int32))).2.1 ?_
       refine XS.iloadN X0.here hx rfl (hb hby own_d22_22) rfl ?_
       refine XS.iloadN X0.here hx rfl (hb hby own_d22_23) rfl ?_
       exact k
      by_cases h5 : (-100000 : Int32) < (-sv)
      ·refine own_st (T' := s₁) (g' := (mkF m 30 #[vi (-sv), vi 0, vi (-100000), vi 5] [(.int 5)])) (fun t k => ?_) ?_
       ·refine XS.icmpNo X0.here hx rfl (hb hby own_d22_24) rfl (tlt h5).2.2.2 ?_
        refine XS.iloadN X0.here hx rfl (hb hby own_d22_27) rfl ?_
        refine XS.iloadN X0.here hx rfl (hb hby own_d22_28) rfl ?_
        refine XS.iadd X0.here hx rfl (hb hby own_d22_29) rfl ?_
        exact k
       exact own_retI X0 hx Bd (hb hby own_d22_30) e0 (⟨own_szp hneg (own_se5 (own_hi0 hneg) h4 h5) (by decide), N0, rfl⟩) (by decide) (by decide)
      ·refine own_st (T' := s₁) (g' := (mkF m 24 #[vi (-sv), vi 0, vi (-1000000), vi 6] [(.int (-1000000)), (.int (-sv))])) (fun t k => ?_) ?_
       ·refine XS.icmpYes X0.here hx rfl (pc0 := 24) (pc' := 31) rfl (hb hby own_d22_24) rfl (flt h5).2.2.2 (by decide) (by decide) ?_
        refine XS.bipush X0.here hx rfl (hb hby own_d22_31) ?_
        refine XS.iloadN X0.here hx rfl (hb hby own_d22_33) rfl ?_
        refine XS.imul X0.here hx rfl (hb hby own_d22_34) rfl ?_
        refine XS.istoreN X0.here hx rfl (hb hby own_d22_35) rfl (l' := #[vi (-sv), vi 0, vi (-1000000), vi 5]) rfl ?_
        refine XS.iinc X0.here hx rfl (hb hby own_d22_36) rfl (l' := #[vi (-sv), vi 0, vi (-1000000), vi 6]) rfl ?_
        refine XS.goto X0.here hx rfl (pc0 := 39) (pc' := 16) rfl (hb hby own_d22_39) (by decide) (by decide) ?_
        refine XS.iloadN X0.here hx rfl (hb hby own_d22_16) rfl ?_
        refine XS.bipush X0.here hx rfl (hb hby own_d22_17) ?_
        refine XS.icmpNo X0.here hx rfl (hb hby own_d22_19) rfl (tlt (by decide : (6 : Int32) < (10 : Int32))).2.1 ?_
        refine XS.iloadN X0.here hx rfl (hb hby own_d22_22) rfl ?_
        refine XS.iloadN X0.here hx rfl (hb hby own_d22_23) rfl ?_
        exact k
       by_cases h6 : (-1000000 : Int32) < (-sv)
       ·refine own_st (T' := s₁) (g' := (mkF m 30 #[vi (-sv), vi 0, vi (-1000000), vi 6] [(.int 6)])) (fun t k => ?_) ?_
        ·refine XS.icmpNo X0.here hx rfl (hb hby own_d22_24) rfl (tlt h6).2.2.2 ?_
         refine XS.iloadN X0.here hx rfl (hb hby own_d22_27) rfl ?_
         refine XS.iloadN X0.here hx rfl (hb hby own_d22_28) rfl ?_
         refine XS.iadd X0.here hx rfl (hb hby own_d22_29) rfl ?_
         exact k
        exact own_retI X0 hx Bd (hb hby own_d22_30) e0 (⟨own_szp hneg (own_se6 (own_hi0 hneg) h5 h6) (by decide), N0, rfl⟩) (by decide) (by decide)
       ·refine own_st (T' := s₁) (g' := (mkF m 24 #[vi (-sv), vi 0, vi (-10000000), vi 7] [(.int (-10000000)), (.int (-sv))])) (fun t k => ?_) ?_
        ·refine XS.icmpYes X0.here hx rfl (pc0 := 24) (pc' := 31) rfl (hb hby own_d22_24) rfl (flt h6).2.2.2 (by decide) (by decide) ?_
         refine XS.bipush X0.here hx rfl (hb hby own_d22_31) ?_
         refine XS.iloadN X0.here hx rfl (hb hby own_d22_33) rfl ?_
         refine XS.imul X0.here hx rfl (hb hby own_d22_34) rfl ?_
         refine XS.istoreN X0.here hx rfl (hb hby own_d22_35) rfl (l' := #[vi (-sv), vi 0, vi (-10000000), vi 6]) rfl ?_
         refine XS.iinc X0.here hx rfl (hb hby own_d22_36) rfl (l' := #[vi (-sv), vi 0, vi (-10000000), vi 7]) rfl ?_
         refine XS.goto X0.here hx rfl (pc0 := 39) (pc' := 16) rfl (hb hby own_d22_39) (by decide) (by decide) ?_
         refine XS.iloadN X0.here hx rfl (hb hby own_d22_16) rfl ?_
         refine XS.bipush X0.here hx rfl (hb hby own_d22_17) ?_
         refine XS.icmpNo X0.here hx rfl (hb hby own_d22_19) rfl (tlt (by decide : (7 : Int32) < (10 : Int32))).2.1 ?_
         refine XS.iloadN X0.here hx rfl (hb hby own_d22_22) rfl ?_
         refine XS.iloadN X0.here hx rfl (hb hby own_d22_23) rfl ?_
         exact k
        by_cases h7 : (-10000000 : Int32) < (-sv)
        ·refine own_st (T' := s₁) (g' := (mkF m 30 #[vi (-sv), vi 0, vi (-10000000), vi 7] [(.int 7)])) (fun t k => ?_) ?_
         ·refine XS.icmpNo X0.here hx rfl (hb hby own_d22_24) rfl (tlt h7).2.2.2 ?_
          refine XS.iloadN X0.here hx rfl (hb hby own_d22_27) rfl ?_
          refine XS.iloadN X0.here hx rfl (hb hby own_d22_28) rfl ?_
          refine XS.iadd X0.here hx rfl (hb hby own_d22_29) rfl ?_
          exact k
         exact own_retI X0 hx Bd (hb hby own_d22_30) e0 (⟨own_szp hneg (own_se7 (own_hi0 hneg) h6 h7) (by decide), N0, rfl⟩) (by decide) (by decide)
        ·refine own_st (T' := s₁) (g' := (mkF m 24 #[vi (-sv), vi 0, vi (-100000000), vi 8] [(.int (-100000000)), (.int (-sv))])) (fun t k => ?_) ?_
         ·refine XS.icmpYes X0.here hx rfl (pc0 := 24) (pc' := 31) rfl (hb hby own_d22_24) rfl (flt h7).2.2.2 (by decide) (by decide) ?_
          refine XS.bipush X0.here hx rfl (hb hby own_d22_31) ?_
          refine XS.iloadN X0.here hx rfl (hb hby own_d22_33) rfl ?_
          refine XS.imul X0.here hx rfl (hb hby own_d22_34) rfl ?_
          refine XS.istoreN X0.here hx rfl (hb hby own_d22_35) rfl (l' := #[vi (-sv), vi 0, vi (-100000000), vi 7]) rfl ?_
          refine XS.iinc X0.here hx rfl (hb hby own_d22_36) rfl (l' := #[vi (-sv), vi 0, vi (-100000000), vi 8]) rfl ?_
          refine XS.goto X0.here hx rfl (pc0 := 39) (pc' := 16) rfl (hb hby own_d22_39) (by decide) (by decide) ?_
          refine XS.iloadN X0.here hx rfl (hb hby own_d22_16) rfl ?_
          refine XS.bipush X0.here hx rfl (hb hby own_d22_17) ?_
          refine XS.icmpNo X0.here hx rfl (hb hby own_d22_19) rfl (tlt (by decide : (8 : Int32) < (10 : Int32))).2.1 ?_
          refine XS.iloadN X0.here hx rfl (hb hby own_d22_22) rfl ?_
          refine XS.iloadN X0.here hx rfl (hb hby own_d22_23) rfl ?_
          exact k
         by_cases h8 : (-100000000 : Int32) < (-sv)
         ·refine own_st (T' := s₁) (g' := (mkF m 30 #[vi (-sv), vi 0, vi (-100000000), vi 8] [(.int 8)])) (fun t k => ?_) ?_
          ·refine XS.icmpNo X0.here hx rfl (hb hby own_d22_24) rfl (tlt h8).2.2.2 ?_
           refine XS.iloadN X0.here hx rfl (hb hby own_d22_27) rfl ?_
           refine XS.iloadN X0.here hx rfl (hb hby own_d22_28) rfl ?_
           refine XS.iadd X0.here hx rfl (hb hby own_d22_29) rfl ?_
           exact k
          exact own_retI X0 hx Bd (hb hby own_d22_30) e0 (⟨own_szp hneg (own_se8 (own_hi0 hneg) h7 h8) (by decide), N0, rfl⟩) (by decide) (by decide)
         ·refine own_st (T' := s₁) (g' := (mkF m 24 #[vi (-sv), vi 0, vi (-1000000000), vi 9] [(.int (-1000000000)), (.int (-sv))])) (fun t k => ?_) ?_
          ·refine XS.icmpYes X0.here hx rfl (pc0 := 24) (pc' := 31) rfl (hb hby own_d22_24) rfl (flt h8).2.2.2 (by decide) (by decide) ?_
           refine XS.bipush X0.here hx rfl (hb hby own_d22_31) ?_
           refine XS.iloadN X0.here hx rfl (hb hby own_d22_33) rfl ?_
           refine XS.imul X0.here hx rfl (hb hby own_d22_34) rfl ?_
           refine XS.istoreN X0.here hx rfl (hb hby own_d22_35) rfl (l' := #[vi (-sv), vi 0, vi (-1000000000), vi 8]) rfl ?_
           refine XS.iinc X0.here hx rfl (hb hby own_d22_36) rfl (l' := #[vi (-sv), vi 0, vi (-1000000000), vi 9]) rfl ?_
           refine XS.goto X0.here hx rfl (pc0 := 39) (pc' := 16) rfl (hb hby own_d22_39) (by decide) (by decide) ?_
           refine XS.iloadN X0.here hx rfl (hb hby own_d22_16) rfl ?_
           refine XS.bipush X0.here hx rfl (hb hby own_d22_17) ?_
           refine XS.icmpNo X0.here hx rfl (hb hby own_d22_19) rfl (tlt (by decide : (9 : Int32) < (10 : Int32))).2.1 ?_
           refine XS.iloadN X0.here hx rfl (hb hby own_d22_22) rfl ?_
           refine XS.iloadN X0.here hx rfl (hb hby own_d22_23) rfl ?_
           exact k
          by_cases h9 : (-1000000000 : Int32) < (-sv)
          ·refine own_st (T' := s₁) (g' := (mkF m 30 #[vi (-sv), vi 0, vi (-1000000000), vi 9] [(.int 9)])) (fun t k => ?_) ?_
           ·refine XS.icmpNo X0.here hx rfl (hb hby own_d22_24) rfl (tlt h9).2.2.2 ?_
            refine XS.iloadN X0.here hx rfl (hb hby own_d22_27) rfl ?_
            refine XS.iloadN X0.here hx rfl (hb hby own_d22_28) rfl ?_
            refine XS.iadd X0.here hx rfl (hb hby own_d22_29) rfl ?_
            exact k
           exact own_retI X0 hx Bd (hb hby own_d22_30) e0 (⟨own_szp hneg (own_se9 (own_hi0 hneg) h8 h9) (by decide), N0, rfl⟩) (by decide) (by decide)
          ·refine own_st (T' := s₁) (g' := (mkF m 46 #[vi (-sv), vi 0, vi (-1410065408), vi 10] [(.int 10)])) (fun t k => ?_) ?_
           ·refine XS.icmpYes X0.here hx rfl (pc0 := 24) (pc' := 31) rfl (hb hby own_d22_24) rfl (flt h9).2.2.2 (by decide) (by decide) ?_
            refine XS.bipush X0.here hx rfl (hb hby own_d22_31) ?_
            refine XS.iloadN X0.here hx rfl (hb hby own_d22_33) rfl ?_
            refine XS.imul X0.here hx rfl (hb hby own_d22_34) rfl ?_
            refine XS.istoreN X0.here hx rfl (hb hby own_d22_35) rfl (l' := #[vi (-sv), vi 0, vi (-1410065408), vi 9]) rfl ?_
            refine XS.iinc X0.here hx rfl (hb hby own_d22_36) rfl (l' := #[vi (-sv), vi 0, vi (-1410065408), vi 10]) rfl ?_
            refine XS.goto X0.here hx rfl (pc0 := 39) (pc' := 16) rfl (hb hby own_d22_39) (by decide) (by decide) ?_
            refine XS.iloadN X0.here hx rfl (hb hby own_d22_16) rfl ?_
            refine XS.bipush X0.here hx rfl (hb hby own_d22_17) ?_
            refine XS.icmpYes X0.here hx rfl (pc0 := 19) (pc' := 42) rfl (hb hby own_d22_19) rfl (flt Int32.lt_irrefl).2.1 (by decide) (by decide) ?_
            refine XS.bipush X0.here hx rfl (hb hby own_d22_42) ?_
            refine XS.iloadN X0.here hx rfl (hb hby own_d22_44) rfl ?_
            refine XS.iadd X0.here hx rfl (hb hby own_d22_45) rfl ?_
            exact k
           exact own_retI X0 hx Bd (hb hby own_d22_46) e0 (⟨own_szp hneg (own_se10 (own_hi0 hneg) h9) (by decide), N0, rfl⟩) (by decide) (by decide)
def own_r40 : Room := { frames := 0, cells := 0, slots := 0, locals := 0 }
theorem own_rm40 (l : Launch) (Z : State) (a0 : Array Value) (hw : own_W a0 Z) (av : Int64) (nn : Nat) (h0 : Heap) (n0 : Nat) (Z0 : n0 ≤ h0.size) (hav : av.toInt = (nn : Int)) :
  own_MF l Z own_y2 (Jvm.Cond.code own_y2 method_3_code 2 (some .int)) [] own_r40 #[(.long av)] h0 (own_P h0 n0 (.int (Int32.ofNat (own_nd nn)))) := by
 refine own_open (plainFor_of_name own_pn1) hisR (Ls := #[vl av, .second]) ?_
 intro p e s m below meth c s₁ Bd hZ hx hby hml hown X0 e0
 have N0 := Fr.nil n0
 refine own_st (T' := s₁) (g' := (mkF m 5 #[vl av, .second] [(.int (lcmpW av (10 : Int64)))])) (fun t k => ?_) ?_
 ·refine XS.lloadN X0.here hx rfl (hb hby own_d40_0) rfl ?_
  refine X0.ldc2Long hx hown (om hZ hw 213 rfl) (g := (mkF m 1 #[vl av, .second] [(.long av)])) rfl (hb hby own_d40_1) _ ?_
  refine XS.lcmp X0.here hx rfl (hb hby own_d40_4) rfl ?_
  exact k
 by_cases h1 : av < (10 : Int64)
 ·refine own_st (T' := s₁) (g' := (mkF m 9 #[vl av, .second] [(.int 1)])) (fun t k => ?_) ?_
  ·refine XS.ifNo X0.here hx rfl (hb hby own_d40_5) rfl ((if0 _ _).trans (tlt ((lw_lt _ _).mpr h1)).2.1) ?_
   refine XS.iconst X0.here hx rfl (hb hby own_d40_8) ?_
   exact k
  exact own_retI X0 hx Bd (hb hby own_d40_9) e0 (⟨own_dl1 hav h1, N0, rfl⟩) (by decide) (by decide)
 ·refine own_st (T' := s₁) (g' := (mkF m 15 #[vl av, .second] [(.int (lcmpW av (100 : Int64)))])) (fun t k => ?_) ?_
  ·refine XS.ifYes X0.here hx rfl (pc0 := 5) (pc' := 10) rfl (hb hby own_d40_5) rfl ((if0 _ _).trans (flt (fun q => h1 ((lw_lt _ _).mp q))).2.1) (by decide) (by decide) ?_
   refine XS.lloadN X0.here hx rfl (hb hby own_d40_10) rfl ?_
   refine X0.ldc2Long hx hown (om hZ hw 218 rfl) (g := (mkF m 11 #[vl av, .second] [(.long av)])) rfl (hb hby own_d40_11) _ ?_
   refine XS.lcmp X0.here hx rfl (hb hby own_d40_14) rfl ?_
   exact k
  by_cases h2 : av < (100 : Int64)
  ·refine own_st (T' := s₁) (g' := (mkF m 19 #[vl av, .second] [(.int 2)])) (fun t k => ?_) ?_
   ·refine XS.ifNo X0.here hx rfl (hb hby own_d40_15) rfl ((if0 _ _).trans (tlt ((lw_lt _ _).mpr h2)).2.1) ?_
    refine XS.iconst X0.here hx rfl (hb hby own_d40_18) ?_
    exact k
   exact own_retI X0 hx Bd (hb hby own_d40_19) e0 (⟨own_dl2 hav h1 h2, N0, rfl⟩) (by decide) (by decide)
  ·refine own_st (T' := s₁) (g' := (mkF m 25 #[vl av, .second] [(.int (lcmpW av (1000 : Int64)))])) (fun t k => ?_) ?_
   ·refine XS.ifYes X0.here hx rfl (pc0 := 15) (pc' := 20) rfl (hb hby own_d40_15) rfl ((if0 _ _).trans (flt (fun q => h2 ((lw_lt _ _).mp q))).2.1) (by decide) (by decide) ?_
    refine XS.lloadN X0.here hx rfl (hb hby own_d40_20) rfl ?_
    refine X0.ldc2Long hx hown (om hZ hw 219 rfl) (g := (mkF m 21 #[vl av, .second] [(.long av)])) rfl (hb hby own_d40_21) _ ?_
    refine XS.lcmp X0.here hx rfl (hb hby own_d40_24) rfl ?_
    exact k
   by_cases h3 : av < (1000 : Int64)
   ·refine own_st (T' := s₁) (g' := (mkF m 29 #[vl av, .second] [(.int 3)])) (fun t k => ?_) ?_
    ·refine XS.ifNo X0.here hx rfl (hb hby own_d40_25) rfl ((if0 _ _).trans (tlt ((lw_lt _ _).mpr h3)).2.1) ?_
     refine XS.iconst X0.here hx rfl (hb hby own_d40_28) ?_
     exact k
    exact own_retI X0 hx Bd (hb hby own_d40_29) e0 (⟨own_dl3 hav h2 h3, N0, rfl⟩) (by decide) (by decide)
   ·refine own_st (T' := s₁) (g' := (mkF m 35 #[vl av, .second] [(.int (lcmpW av (10000 : Int64)))])) (fun t k => ?_) ?_
    ·refine XS.ifYes X0.here hx rfl (pc0 := 25) (pc' := 30) rfl (hb hby own_d40_25) rfl ((if0 _ _).trans (flt (fun q => h3 ((lw_lt _ _).mp q))).2.1) (by decide) (by decide) ?_
     refine XS.lloadN X0.here hx rfl (hb hby own_d40_30) rfl ?_
     refine X0.ldc2Long hx hown (om hZ hw 220 rfl) (g := (mkF m 31 #[vl av, .second] [(.long av)])) rfl (hb hby own_d40_31) _ ?_
     refine XS.lcmp X0.here hx rfl (hb hby own_d40_34) rfl ?_
     exact k
    by_cases h4 : av < (10000 : Int64)
    ·refine own_st (T' := s₁) (g' := (mkF m 39 #[vl av, .second] [(.int 4)])) (fun t k => ?_) ?_
     ·refine XS.ifNo X0.here hx rfl (hb hby own_d40_35) rfl ((if0 _ _).trans (tlt ((lw_lt _ _).mpr h4)).2.1) ?_
      refine XS.iconst X0.here hx rfl (hb hby own_d40_38) ?_
      exact k
     exact own_retI X0 hx Bd (hb hby own_d40_39) e0 (⟨own_dl4 hav h3 h4, N0, rfl⟩) (by decide) (by decide)
    ·refine own_st (T' := s₁) (g' := (mkF m 45 #[vl av, .second] [(.int (lcmpW av (100000 : Int64)))])) (fun t k => ?_) ?_
     ·refine XS.ifYes X0.here hx rfl (pc0 := 35) (pc' := 40) rfl (hb hby own_d40_35) rfl ((if0 _ _).trans (flt (fun q => h4 ((lw_lt _ _).mp q))).2.1) (by decide) (by decide) ?_
      refine XS.lloadN X0.here hx rfl (hb hby own_d40_40) rfl ?_
      refine X0.ldc2Long hx hown (om hZ hw 221 rfl) (g := (mkF m 41 #[vl av, .second] [(.long av)])) rfl (hb hby own_d40_41) _ ?_
      refine XS.lcmp X0.here hx rfl (hb hby own_d40_44) rfl ?_
      exact k
     by_cases h5 : av < (100000 : Int64)
     ·refine own_st (T' := s₁) (g' := (mkF m 49 #[vl av, .second] [(.int 5)])) (fun t k => ?_) ?_
      ·refine XS.ifNo X0.here hx rfl (hb hby own_d40_45) rfl ((if0 _ _).trans (tlt ((lw_lt _ _).mpr h5)).2.1) ?_
       refine XS.iconst X0.here hx rfl (hb hby own_d40_48) ?_
       exact k
      exact own_retI X0 hx Bd (hb hby own_d40_49) e0 (⟨own_dl5 hav h4 h5, N0, rfl⟩) (by decide) (by decide)
     ·refine own_st (T' := s₁) (g' := (mkF m 55 #[vl av, .second] [(.int (lcmpW av (1000000 : Int64)))])) (fun t k => ?_) ?_
      ·refine XS.ifYes X0.here hx rfl (pc0 := 45) (pc' := 50) rfl (hb hby own_d40_45) rfl ((if0 _ _).trans (flt (fun q => h5 ((lw_lt _ _).mp q))).2.1) (by decide) (by decide) ?_
       refine XS.lloadN X0.here hx rfl (hb hby own_d40_50) rfl ?_
       refine X0.ldc2Long hx hown (om hZ hw 222 rfl) (g := (mkF m 51 #[vl av, .second] [(.long av)])) rfl (hb hby own_d40_51) _ ?_
       refine XS.lcmp X0.here hx rfl (hb hby own_d40_54) rfl ?_
       exact k
      by_cases h6 : av < (1000000 : Int64)
      ·refine own_st (T' := s₁) (g' := (mkF m 60 #[vl av, .second] [(.int 6)])) (fun t k => ?_) ?_
       ·refine XS.ifNo X0.here hx rfl (hb hby own_d40_55) rfl ((if0 _ _).trans (tlt ((lw_lt _ _).mpr h6)).2.1) ?_
        refine XS.bipush X0.here hx rfl (hb hby own_d40_58) ?_
        exact k
       exact own_retI X0 hx Bd (hb hby own_d40_60) e0 (⟨own_dl6 hav h5 h6, N0, rfl⟩) (by decide) (by decide)
      ·refine own_st (T' := s₁) (g' := (mkF m 66 #[vl av, .second] [(.int (lcmpW av (10000000 : Int64)))])) (fun t k => ?_) ?_
       ·refine XS.ifYes X0.here hx rfl (pc0 := 55) (pc' := 61) rfl (hb hby own_d40_55) rfl ((if0 _ _).trans (flt (fun q => h6 ((lw_lt _ _).mp q))).2.1) (by decide) (by decide) ?_
        refine XS.lloadN X0.here hx rfl (hb hby own_d40_61) rfl ?_
        refine X0.ldc2Long hx hown (om hZ hw 223 rfl) (g := (mkF m 62 #[vl av, .second] [(.long av)])) rfl (hb hby own_d40_62) _ ?_
        refine XS.lcmp X0.here hx rfl (hb hby own_d40_65) rfl ?_
        exact k
       by_cases h7 : av < (10000000 : Int64)
       ·refine own_st (T' := s₁) (g' := (mkF m 71 #[vl av, .second] [(.int 7)])) (fun t k => ?_) ?_
        ·refine XS.ifNo X0.here hx rfl (hb hby own_d40_66) rfl ((if0 _ _).trans (tlt ((lw_lt _ _).mpr h7)).2.1) ?_
         refine XS.bipush X0.here hx rfl (hb hby own_d40_69) ?_
         exact k
        exact own_retI X0 hx Bd (hb hby own_d40_71) e0 (⟨own_dl7 hav h6 h7, N0, rfl⟩) (by decide) (by decide)
       ·refine own_st (T' := s₁) (g' := (mkF m 77 #[vl av, .second] [(.int (lcmpW av (100000000 : Int64)))])) (fun t k => ?_) ?_
        ·refine XS.ifYes X0.here hx rfl (pc0 := 66) (pc' := 72) rfl (hb hby own_d40_66) rfl ((if0 _ _).trans (flt (fun q => h7 ((lw_lt _ _).mp q))).2.1) (by decide) (by decide) ?_
         refine XS.lloadN X0.here hx rfl (hb hby own_d40_72) rfl ?_
         refine X0.ldc2Long hx hown (om hZ hw 224 rfl) (g := (mkF m 73 #[vl av, .second] [(.long av)])) rfl (hb hby own_d40_73) _ ?_
         refine XS.lcmp X0.here hx rfl (hb hby own_d40_76) rfl ?_
         exact k
        by_cases h8 : av < (100000000 : Int64)
        ·refine own_st (T' := s₁) (g' := (mkF m 82 #[vl av, .second] [(.int 8)])) (fun t k => ?_) ?_
         ·refine XS.ifNo X0.here hx rfl (hb hby own_d40_77) rfl ((if0 _ _).trans (tlt ((lw_lt _ _).mpr h8)).2.1) ?_
          refine XS.bipush X0.here hx rfl (hb hby own_d40_80) ?_
          exact k
         exact own_retI X0 hx Bd (hb hby own_d40_82) e0 (⟨own_dl8 hav h7 h8, N0, rfl⟩) (by decide) (by decide)
        ·refine own_st (T' := s₁) (g' := (mkF m 88 #[vl av, .second] [(.int (lcmpW av (1000000000 : Int64)))])) (fun t k => ?_) ?_
         ·refine XS.ifYes X0.here hx rfl (pc0 := 77) (pc' := 83) rfl (hb hby own_d40_77) rfl ((if0 _ _).trans (flt (fun q => h8 ((lw_lt _ _).mp q))).2.1) (by decide) (by decide) ?_
          refine XS.lloadN X0.here hx rfl (hb hby own_d40_83) rfl ?_
          refine X0.ldc2Long hx hown (om hZ hw 225 rfl) (g := (mkF m 84 #[vl av, .second] [(.long av)])) rfl (hb hby own_d40_84) _ ?_
          refine XS.lcmp X0.here hx rfl (hb hby own_d40_87) rfl ?_
          exact k
         by_cases h9 : av < (1000000000 : Int64)
         ·refine own_st (T' := s₁) (g' := (mkF m 93 #[vl av, .second] [(.int 9)])) (fun t k => ?_) ?_
          ·refine XS.ifNo X0.here hx rfl (hb hby own_d40_88) rfl ((if0 _ _).trans (tlt ((lw_lt _ _).mpr h9)).2.1) ?_
           refine XS.bipush X0.here hx rfl (hb hby own_d40_91) ?_
           exact k
          exact own_retI X0 hx Bd (hb hby own_d40_93) e0 (⟨own_dl9 hav h8 h9, N0, rfl⟩) (by decide) (by decide)
         ·refine own_st (T' := s₁) (g' := (mkF m 96 #[vl av, .second] [(.int 10)])) (fun t k => ?_) ?_
          ·refine XS.ifYes X0.here hx rfl (pc0 := 88) (pc' := 94) rfl (hb hby own_d40_88) rfl ((if0 _ _).trans (flt (fun q => h9 ((lw_lt _ _).mp q))).2.1) (by decide) (by decide) ?_
           refine XS.bipush X0.here hx rfl (hb hby own_d40_94) ?_
           exact k
          exact own_retI X0 hx Bd (hb hby own_d40_96) e0 (⟨own_dl10 hav h9, N0, rfl⟩) (by decide) (by decide)
def own_r14 : Room := { frames := 0, cells := 0, slots := 0, locals := 0 }
theorem own_rm14 (l : Launch) (Z : State) (a0 : Array Value) (hw : own_W a0 Z) (h0 : Heap) (n0 : Nat) (Z0 : n0 ≤ h0.size) :
  own_MF l Z own_y3 (Jvm.Cond.code own_y3 jdk_29_method_65_code 2 (some .int)) [] own_r14 #[(.int 6), (.int 18)] h0 (own_P h0 n0 (.int 18)) := by
 refine own_open (Jvm.Free.JP.mathPlain rfl (by decide +kernel)) hisR (Ls := #[vi 6, vi 18]) ?_
 intro p e s m below meth c s₁ Bd hZ hx hby hml hown X0 e0
 have N0 := Fr.nil n0
 refine own_st (T' := s₁) (g' := (mkF m 10 #[vi 6, vi 18] [(.int 18)])) (fun t k => ?_) ?_
 ·refine XS.iloadN X0.here hx rfl (hb hby own_d14_0) rfl ?_
  refine XS.iloadN X0.here hx rfl (hb hby own_d14_1) rfl ?_
  refine XS.icmpYes X0.here hx rfl (pc0 := 2) (pc' := 9) rfl (hb hby own_d14_2) rfl (tlt (by decide : (6 : Int32) < (18 : Int32))).1 (by decide) (by decide) ?_
  refine XS.iloadN X0.here hx rfl (hb hby own_d14_9) rfl ?_
  exact k
 exact own_retI X0 hx Bd (hb hby own_d14_10) e0 (⟨rfl, N0, rfl⟩) (by decide) (by decide)
def own_r16_a : Room := { frames := 0, cells := 0, slots := 0, locals := 0 }
theorem own_rm16_a (l : Launch) (Z : State) (a0 : Array Value) (hw : own_W a0 Z) (h0 : Heap) (n0 : Nat) (Z0 : n0 ≤ h0.size) :
  own_MF l Z own_y4 (Jvm.Cond.code own_y4 jdk_29_method_69_code 2 (some .int)) [] own_r16_a #[(.int 16), (.int 34)] h0 (own_P h0 n0 (.int 16)) := by
 refine own_open (Jvm.Free.JP.mathPlain rfl (by decide +kernel)) hisR (Ls := #[vi 16, vi 34]) ?_
 intro p e s m below meth c s₁ Bd hZ hx hby hml hown X0 e0
 have N0 := Fr.nil n0
 refine own_st (T' := s₁) (g' := (mkF m 10 #[vi 16, vi 34] [(.int 16)])) (fun t k => ?_) ?_
 ·refine XS.iloadN X0.here hx rfl (hb hby own_d16_0) rfl ?_
  refine XS.iloadN X0.here hx rfl (hb hby own_d16_1) rfl ?_
  refine XS.icmpNo X0.here hx rfl (hb hby own_d16_2) rfl (flt (by decide : ¬ ((34 : Int32) < (16 : Int32)))).2.2.1 ?_
  refine XS.iloadN X0.here hx rfl (hb hby own_d16_5) rfl ?_
  refine XS.goto X0.here hx rfl (pc0 := 6) (pc' := 10) rfl (hb hby own_d16_6) (by decide) (by decide) ?_
  exact k
 exact own_retI X0 hx Bd (hb hby own_d16_10) e0 (⟨rfl, N0, rfl⟩) (by decide) (by decide)
def own_r16_b : Room := { frames := 0, cells := 0, slots := 0, locals := 0 }
theorem own_rm16_b (l : Launch) (Z : State) (a0 : Array Value) (hw : own_W a0 Z) (av bv : Int32) (h0 : Heap) (n0 : Nat) (Z0 : n0 ≤ h0.size) (hba : bv < av) :
  own_MF l Z own_y4 (Jvm.Cond.code own_y4 jdk_29_method_69_code 2 (some .int)) [] own_r16_b #[(.int av), (.int bv)] h0 (own_P h0 n0 (.int bv)) := by
 refine own_open (Jvm.Free.JP.mathPlain rfl (by decide +kernel)) hisR (Ls := #[vi av, vi bv]) ?_
 intro p e s m below meth c s₁ Bd hZ hx hby hml hown X0 e0
 have N0 := Fr.nil n0
 refine own_st (T' := s₁) (g' := (mkF m 10 #[vi av, vi bv] [(.int bv)])) (fun t k => ?_) ?_
 ·refine XS.iloadN X0.here hx rfl (hb hby own_d16_0) rfl ?_
  refine XS.iloadN X0.here hx rfl (hb hby own_d16_1) rfl ?_
  refine XS.icmpYes X0.here hx rfl (pc0 := 2) (pc' := 9) rfl (hb hby own_d16_2) rfl (tlt hba).2.2.1 (by decide) (by decide) ?_
  refine XS.iloadN X0.here hx rfl (hb hby own_d16_9) rfl ?_
  exact k
 exact own_retI X0 hx Bd (hb hby own_d16_10) e0 (⟨rfl, N0, rfl⟩) (by decide) (by decide)
def own_r13 : Room := { frames := 1, cells := 0, slots := 0, locals := 14 }
theorem own_rm13 (l : Launch) (Z : State) (a0 : Array Value) (hw : own_W a0 Z) (h0 : Heap) (n0 : Nat) (Z0 : n0 ≤ h0.size) :
  own_MF l Z own_y5 (Jvm.Cond.code own_y5 jdk_48_method_27_code 4 (some .int)) [] own_r13 #[(.int 16), (.int 6), (.int 18)] h0 (own_P h0 n0 (.int 34)) := by
 refine own_open (plainFor_of_name own_pn2) hisR (Ls := #[vi 16, vi 6, vi 18, .unset]) ?_
 intro p e s m below meth c s₁ Bd hZ hx hby hml hown X0 e0
 have N0 := Fr.nil n0
 refine own_st (T' := s₁) (g' := (mkF m 3 #[vi 16, vi 6, vi 18, .unset] [(.int 18), (.int 6), (.int 16)])) (fun t k => ?_) ?_
 ·refine XS.iloadN X0.here hx rfl (hb hby own_d13_0) rfl ?_
  refine XS.iloadN X0.here hx rfl (hb hby own_d13_1) rfl ?_
  refine XS.iloadN X0.here hx rfl (hb hby own_d13_2) rfl ?_
  exact k
 obtain ⟨_, _, ⟨T1, L1, c1, n1⟩, -, X1, ⟨Lc1, hQ1, l1, y1, z1⟩, st1⟩ := Jvm.LawKit.callS X0 hx (y := own_y3) hown (om hZ hw 83 rfl) (om hZ hw 84 rfl) (om hZ hw 85 rfl) (om hZ hw 86 rfl) (by decide) (backOf (W := 1) (own_rm14 l Z a0 hw h0 n0 Z0 ) hZ (own_w hw 86 rfl) (own_w hw 85 rfl) (by decide) (by decide)) (g := (mkF m 3 #[vi 16, vi 6, vi 18, .unset] [(.int 18), (.int 6), (.int 16)])) rfl (by rw [hml]; rfl) (argsL := [(.int 6), (.int 18)]) (rest := [(.int 16)]) (lenOf own_pd0 rfl) rfl (by show 2 * 0 + _ ≤ _; exact Nat.le_of_eq rfl) (hb hby own_d13_3) (fun _ _ => ⟨rfl, e0, (by decide : 0 + 0 ≤ _), (by decide : 0 + 0 ≤ _)⟩)
 dsimp only [Pt.U, Pt.locs, Pt.cells, Pt.slots] at X1 l1 y1 z1 st1 hQ1
 subst l1 y1 z1
 obtain ⟨rfl, N1q, e1⟩ := hQ1
 have N1 := Fr.app N0 N1q
 refine own_st (T' := T1) (g' := (mkF m 6 #[vi 16, vi 6, vi 18, .unset] [(.int 18), (.int 16)])) st1 ?_
 refine own_st (T' := T1) (g' := (mkF m 20 #[vi 16, vi 6, vi 18, vi 34] [(.int 34)])) (fun t k => ?_) ?_
 ·refine XS.iadd X1.here hx rfl (hb hby own_d13_6) rfl ?_
  refine XS.istoreN X1.here hx rfl (hb hby own_d13_7) rfl (l' := #[vi 16, vi 6, vi 18, vi 34]) rfl ?_
  refine XS.iconst X1.here hx rfl (hb hby own_d13_8) ?_
  refine XS.iloadN X1.here hx rfl (hb hby own_d13_9) rfl ?_
  refine XS.icmpNo X1.here hx rfl (hb hby own_d13_10) rfl (tlt (by decide : (0 : Int32) < (34 : Int32))).2.1 ?_
  refine XS.iloadN X1.here hx rfl (hb hby own_d13_13) rfl ?_
  refine X1.ldcInt hx hown (om hZ hw 87 rfl) (g := (mkF m 14 #[vi 16, vi 6, vi 18, vi 34] [(.int 34)])) rfl (hb hby own_d13_14) _ ?_
  refine XS.icmpNo X1.here hx rfl (hb hby own_d13_16) rfl (flt (by decide : ¬ ((2147483639 : Int32) < (34 : Int32)))).2.2.1 ?_
  refine XS.iloadN X1.here hx rfl (hb hby own_d13_19) rfl ?_
  exact k
 exact own_retI X1 hx Bd (hb hby own_d13_20) e1 (⟨rfl, N1, rfl⟩) (by decide) (by decide)
def own_r10 : Room := { frames := 0, cells := 0, slots := 0, locals := 0 }
theorem own_rm10 (l : Launch) (Z : State) (a0 : Array Value) (hw : own_W a0 Z) (st : Addr) (cs : Int32) (h0 : Heap) (n0 : Nat) (Z0 : n0 ≤ h0.size) (O0 : Old Z n0 h0) (F_c : Fld Z h0 st "java/lang/String" "coder" "B" (.int 0)) (hcs : ¬ cs = (0 : Int32)) (S_cs : Sta Z Z.heap "java/lang/String" "COMPACT_STRINGS" "Z" (.int cs)) :
  own_MF l Z own_y6 (Jvm.Cond.code own_y6 jdk_42_method_152_code 1 (some .byte)) [] own_r10 #[(.ref st)] h0 (own_P h0 n0 (.int 0)) := by
 refine own_open (plainFor_of_name own_pn3) hisR (Ls := #[vr st]) ?_
 intro p e s m below meth c s₁ Bd hZ hx hby hml hown X0 e0
 have N0 := Fr.nil n0
 have f1 := S_cs.ext O0.2
 obtain ⟨T2, X2, e2, st2⟩ := getS2 X0 hx hZ hown (host := "") (Or.inl (own_w hw 65 rfl)) Via.refl e0 f1 (g := (mkF m 0 #[vr st] [])) rfl (hb hby own_d10_0)
 refine own_st (T' := T2) (g' := (mkF m 3 #[vr st] [(.int cs)])) st2 ?_
 refine own_st (T' := T2) (g' := (mkF m 7 #[vr st] [(.ref st)])) (fun t k => ?_) ?_
 ·refine XS.ifNo X2.here hx rfl (hb hby own_d10_3) rfl ((if0 _ _).trans (feq hcs).1) ?_
  refine XS.aloadN X2.here hx rfl (hb hby own_d10_6) rfl rfl ?_
  exact k
 obtain ⟨T3, X3, e3, st3⟩ := getF X2 hx hZ hown (host := "") (Or.inl (own_w hw 66 rfl)) Via.refl e2 F_c (g := (mkF m 7 #[vr st] [(.ref st)])) rfl rfl (hb hby own_d10_7)
 refine own_st (T' := T3) (g' := (mkF m 10 #[vr st] [(.int 0)])) st3 ?_
 refine own_st (T' := T3) (g' := (mkF m 14 #[vr st] [(.int 0)])) (fun t k => ?_) ?_
 ·refine XS.goto X3.here hx rfl (pc0 := 10) (pc' := 14) rfl (hb hby own_d10_10) (by decide) (by decide) ?_
  exact k
 exact own_retN X3 hx Bd (t := .byte) (by simp) rfl (hb hby own_d10_14) e3 (⟨rfl, N0, rfl⟩) (by decide) (by decide)
def own_r9 : Room := { frames := 1, cells := 0, slots := 0, locals := 13 }
theorem own_rm9 (l : Launch) (Z : State) (a0 : Array Value) (hw : own_W a0 Z) (st sa : Addr) (ka : ClassId) (cs : Int32) (h0 : Heap) (n0 : Nat) (Z0 : n0 ≤ h0.size) (O0 : Old Z n0 h0) (E_s : Exa Z h0 st "java/lang/String") (F_c : Fld Z h0 st "java/lang/String" "coder" "B" (.int 0)) (F_v : Fld Z h0 st "java/lang/String" "value" "[B" (.ref sa)) (V_a : Arv Z h0 sa ka .byte (22 : Int32) [(.int 116), (.int 104), (.int 101), (.int 32), (.int 114), (.int 101), (.int 99), (.int 101), (.int 105), (.int 118), (.int 101), (.int 114), (.int 32), (.int 97), (.int 110), (.int 115), (.int 119), (.int 101), (.int 114), (.int 101), (.int 100), (.int 32)] (.int 0)) (hcs : ¬ cs = (0 : Int32)) (S_cs : Sta Z Z.heap "java/lang/String" "COMPACT_STRINGS" "Z" (.int cs)) :
  own_MF l Z own_y7 (Jvm.Cond.code own_y7 jdk_42_method_54_code 1 (some .int)) [] own_r9 #[(.ref st)] h0 (own_P h0 n0 (.int 22)) := by
 refine own_open (plainFor_of_name own_pn3) hisR (Ls := #[vr st]) ?_
 intro p e s m below meth c s₁ Bd hZ hx hby hml hown X0 e0
 have N0 := Fr.nil n0
 refine own_st (T' := s₁) (g' := (mkF m 1 #[vr st] [(.ref st)])) (fun t k => ?_) ?_
 ·refine XS.aloadN X0.here hx rfl (hb hby own_d9_0) rfl rfl ?_
  exact k
 obtain ⟨T1, X1, e1, st1⟩ := getF X0 hx hZ hown (host := "") (Or.inl (own_w hw 59 rfl)) Via.refl e0 F_v (g := (mkF m 1 #[vr st] [(.ref st)])) rfl rfl (hb hby own_d9_1)
 refine own_st (T' := T1) (g' := (mkF m 4 #[vr st] [(.ref sa)])) st1 ?_
 obtain ⟨cl2, Ar2, q2, S2, M2, H2, G2⟩ := id V_a
 refine own_st (T' := T1) (g' := (mkF m 6 #[vr st] [(.ref st), (.int 22)])) (fun t k => ?_) ?_
 ·refine X1.arraylength hx (by rw [e1]; exact Ar2.1) (State.isArrayOf_alike hZ.alike Ar2.2.1) (g := (mkF m 4 #[vr st] [(.ref sa)])) rfl rfl (hb hby own_d9_4) _ ?_
  rw [len_of S2 M2]
  refine XS.aloadN X1.here hx rfl (hb hby own_d9_5) rfl rfl ?_
  exact k
 obtain ⟨cq3, kq3, q3a, q3b, q3c⟩ := isOf hZ e1 E_s
 obtain ⟨_, _, ⟨T3, L3, c3, n3⟩, -, X3, ⟨Lc3, hQ3, l3, y3, z3⟩, st3⟩ := X1.virtualBack hx (y := own_y6) (z := own_y6) hown (om hZ hw 60 rfl) (om hZ hw 61 rfl) (notFace_of_selects (args := #[]) (om hZ hw 63 rfl)) (om hZ hw 63 rfl) (om hZ hw 62 rfl) (by decide) (backOf (W := 1) (own_rm10 l Z a0 hw st cs h0 n0 Z0 O0 F_c hcs S_cs) hZ (own_w hw 64 rfl) (own_w hw 32 rfl) (by decide) (by decide)) q3a q3c (g := (mkF m 6 #[vr st] [(.ref st), (.int 22)])) rfl (by rw [hml]; rfl) (Steps.refl _) (argsL := []) (rest := [(.int 22)]) (lenOf own_pd1 rfl) rfl (by show 2 * 0 + _ ≤ _; exact Nat.le_of_eq rfl) (hb hby own_d9_6) (fun _ _ => ⟨rfl, e1, (by decide : 0 + 0 ≤ _), (by decide : 0 + 0 ≤ _)⟩)
 dsimp only [Pt.U, Pt.locs, Pt.cells, Pt.slots] at X3 l3 y3 z3 st3 hQ3
 subst l3 y3 z3
 obtain ⟨rfl, N3q, e3⟩ := hQ3
 have N3 := Fr.app N0 N3q
 refine own_tr (T' := T3) (g' := (mkF m 9 #[vr st] [(.int 0), (.int 22)])) st3 ?_
 refine own_st (T' := T3) (g' := (mkF m 10 #[vr st] [(.int 22)])) (fun t k => ?_) ?_
 ·refine XS.ishr X3.here hx rfl (hb hby own_d9_9) rfl ?_
  exact k
 exact own_retI X3 hx Bd (hb hby own_d9_10) e3 (⟨rfl, N3, rfl⟩) (by decide) (by decide)
def own_r5 : Room := { frames := 1, cells := 1, slots := 16, locals := 12 }
def own_Q5 (Z : State) (sb : Addr) (cs : Int32) (h0 : Heap) (n0 : Nat) : Option Value → Heap → List Loc → Prop := fun v h L => ∃ r k, v = none ∧ Fr n0 L ∧ Keep h0 h [sb] ∧ n0 ≤ r ∧ h0.size ≤ r ∧ Fld Z h sb "java/lang/AbstractStringBuilder" "value" "[B" (.ref r) ∧ Fld Z h sb "java/lang/AbstractStringBuilder" "coder" "B" (.int 0) ∧ Fld Z h sb "java/lang/AbstractStringBuilder" "count" "I" (.int 0) ∧ Arv Z h r k .byte (16 : Int32) [(.int 0), (.int 0), (.int 0), (.int 0), (.int 0), (.int 0), (.int 0), (.int 0), (.int 0), (.int 0), (.int 0), (.int 0), (.int 0), (.int 0), (.int 0), (.int 0)] (.int 0)
theorem own_rm5 (l : Launch) (Z : State) (a0 : Array Value) (hw : own_W a0 Z) (sb : Addr) (cs : Int32) (h0 : Heap) (n0 : Nat) (Z0 : n0 ≤ h0.size) (O0 : Old Z n0 h0) (E_b : Exa Z h0 sb "java/lang/StringBuilder") (B_v : Fld Z h0 sb "java/lang/AbstractStringBuilder" "value" "[B" .null) (B_c : Fld Z h0 sb "java/lang/AbstractStringBuilder" "coder" "B" (.int 0)) (B_n : Fld Z h0 sb "java/lang/AbstractStringBuilder" "count" "I" (.int 0)) (g_b : n0 ≤ sb) (hcs : ¬ cs = (0 : Int32)) (S_cs : Sta Z Z.heap "java/lang/String" "COMPACT_STRINGS" "Z" (.int cs)) :
  own_MF l Z own_y8 (Jvm.Cond.code own_y8 jdk_68_method_2_code 2 none) [] own_r5 #[(.ref sb), (.int 16)] h0 (own_Q5 Z sb cs h0 n0) := by
 refine own_open (plainFor_of_name own_pn4) hisR (Ls := #[vr sb, vi 16]) ?_
 intro p e s m below meth c s₁ Bd hZ hx hby hml hown X0 e0
 have N0 := Fr.nil n0
 refine own_st (T' := s₁) (g' := (mkF m 1 #[vr sb, vi 16] [(.ref sb)])) (fun t k => ?_) ?_
 ·refine XS.aloadN X0.here hx rfl (hb hby own_d5_0) rfl rfl ?_
  exact k
 obtain ⟨T1, X1, e1, st1⟩ := initO X0 hx hZ hown (own_w hw 28 rfl) (own_w hw 29 rfl) (own_w hw 30 rfl) e0 (g := (mkF m 1 #[vr sb, vi 16] [(.ref sb)])) rfl (by rw [hml]; rfl) rfl (hb hby own_d5_1) (by decide) (W := 0) (by show 2 * 0 + _ ≤ _; exact Nat.le_of_eq rfl) (by decide)
 refine own_st (T' := T1) (g' := (mkF m 4 #[vr sb, vi 16] [])) st1 ?_
 have f2 := S_cs.ext O0.2
 obtain ⟨T3, X3, e3, st3⟩ := getS2 X1 hx hZ hown (host := "") (Or.inl (own_w hw 31 rfl)) Via.refl e1 f2 (g := (mkF m 4 #[vr sb, vi 16] [])) rfl (hb hby own_d5_4)
 refine own_st (T' := T3) (g' := (mkF m 7 #[vr sb, vi 16] [(.int cs)])) st3 ?_
 refine own_st (T' := T3) (g' := (mkF m 12 #[vr sb, vi 16] [(.int 16), (.ref sb)])) (fun t k => ?_) ?_
 ·refine XS.ifNo X3.here hx rfl (hb hby own_d5_7) rfl ((if0 _ _).trans (feq hcs).1) ?_
  refine XS.aloadN X3.here hx rfl (hb hby own_d5_10) rfl rfl ?_
  refine XS.iloadN X3.here hx rfl (hb hby own_d5_11) rfl ?_
  exact k
 obtain ⟨T4, h4, k4, X4, e4, E4, A4, st4⟩ := newP X3 hx hZ (own_w hw 33 rfl) e3 (g := (mkF m 12 #[vr sb, vi 16] [(.int 16), (.ref sb)])) rfl (hb hby own_d5_12) rfl (by decide) (cap := 16) (by decide) (by decide) (by decide) (by decide)
 obtain ⟨b4, g4⟩ : ∃ z, z = h0.size := ⟨_, rfl⟩
 rw [← g4] at A4 st4
 have sz4 : h0.size ≤ b4 := Nat.le_of_eq g4.symm
 have ne_sb_b4 : sb ≠ b4 := Nat.ne_of_lt (Nat.lt_of_lt_of_le E_b.lt sz4)
 have g_b4 : n0 ≤ b4 := Nat.le_trans Z0 sz4
 have hz_b4 : h0.size ≤ b4 := Nat.le_trans (Keep.refl h0 [sb]).1 sz4
 have K4 : Keep h0 h4 [sb] := (Keep.refl h0 [sb]).ext E4
 have Z4 : n0 ≤ h4.size := Nat.le_trans Z0 E4.1
 have O4 := O0.ext E4
 have V4 : Arv Z h4 b4 k4 .byte (16 : Int32) [(.int 0), (.int 0), (.int 0), (.int 0), (.int 0), (.int 0), (.int 0), (.int 0), (.int 0), (.int 0), (.int 0), (.int 0), (.int 0), (.int 0), (.int 0), (.int 0)] (.int 0) := (Arv.new A4 (by decide)).pad (pad_rep [] (.int 0) 16)
 refine own_st (T' := T4) (g' := (mkF m 14 #[vr sb, vi 16] [(.ref b4), (.ref sb)])) st4 ?_
 have f5 := B_v.ext E4
 have f6 := E_b.ext E4
 obtain ⟨T7, h7, X7, e7, W7, st7⟩ := putF X4 hx hZ hown (host := "") (Or.inl (own_w hw 34 rfl)) Via.refl e4 f5 f6 (Or.inl (own_w hw 35 rfl)) (own_w hw 17 rfl) (ty := (.array .byte)) (by decide) rfl rfl (g := (mkF m 14 #[vr sb, vi 16] [(.ref b4), (.ref sb)])) rfl rfl (hb hby own_d5_14)
 have N7 := Fr.snoc X7 N0 g_b
 have K7 : Keep h0 h7 [sb] := K4.wr W7 (Or.inl (List.mem_of_getElem? (i := 0) rfl))
 have Z7 : n0 ≤ h7.size := Nat.le_trans Z4 (Keep.of_wr W7).1
 have O7 := O4.wr W7 g_b
 have fw7 := (f5.same W7)
 refine own_st (T' := T7) (g' := (mkF m 17 #[vr sb, vi 16] [])) st7 ?_
 refine own_st (T' := T7) (g' := (mkF m 19 #[vr sb, vi 16] [(.int 0), (.ref sb)])) (fun t k => ?_) ?_
 ·refine XS.aloadN X7.here hx rfl (hb hby own_d5_17) rfl rfl ?_
  refine XS.iconst X7.here hx rfl (hb hby own_d5_18) ?_
  exact k
 have f8 := (B_c.ext E4).other W7 (Or.inr (slot_ne (Or.inl (own_w hw 37 rfl)) (Or.inl (own_w hw 35 rfl)) (by decide) (t := .byte) (t' := (.array .byte)) (by decide) (by decide)))
 have f9 := f6.wr W7
 obtain ⟨T10, h10, X10, e10, W10, st10⟩ := putFN X7 hx hZ hown (own_w hw 36 rfl) Via.refl e7 f8 f9 (Or.inl (own_w hw 37 rfl)) (own_w hw 17 rfl) (ty := .byte) (v' := (.int 0)) (by decide) rfl rfl (g := (mkF m 19 #[vr sb, vi 16] [(.int 0), (.ref sb)])) rfl rfl (hb hby own_d5_19)
 have N10 := Fr.snoc X10 N7 g_b
 have K10 : Keep h0 h10 [sb] := K7.wr W10 (Or.inl (List.mem_of_getElem? (i := 0) rfl))
 have Z10 : n0 ≤ h10.size := Nat.le_trans Z7 (Keep.of_wr W10).1
 have O10 := O7.wr W10 g_b
 have fw10 := (f8.same W10)
 refine own_st (T' := T10) (g' := (mkF m 22 #[vr sb, vi 16] [])) st10 ?_
 have f11 := fw7.other W10 (Or.inr (slot_ne (Or.inl (own_w hw 35 rfl)) (Or.inl (own_w hw 37 rfl)) (by decide) (t := (.array .byte)) (t' := .byte) (by decide) (by decide)))
 have f12 := ((B_n.ext E4).other W7 (Or.inr (slot_ne (Or.inl (own_w hw 68 rfl)) (Or.inl (own_w hw 35 rfl)) (by decide) (t := .int) (t' := (.array .byte)) (by decide) (by decide)))).other W10 (Or.inr (slot_ne (Or.inl (own_w hw 68 rfl)) (Or.inl (own_w hw 37 rfl)) (by decide) (t := .int) (t' := .byte) (by decide) (by decide)))
 have f13 := (V4.other W7 (Ne.symm ne_sb_b4)).other W10 (Ne.symm ne_sb_b4)
 refine own_st (T' := T10) (g' := (mkF m 38 #[vr sb, vi 16] [])) (fun t k => ?_) ?_
 ·refine XS.goto X10.here hx rfl (pc0 := 22) (pc' := 38) rfl (hb hby own_d5_22) (by decide) (by decide) ?_
  exact k
 exact own_retV X10 hx Bd (hb hby own_d5_38) e10 (⟨b4, k4, rfl, N10, K10, g_b4, hz_b4, f11, fw10, f12, f13⟩) (by decide) (by decide)
def own_r4 : Room := { frames := 2, cells := 1, slots := 16, locals := 25 }
def own_Q4 (Z : State) (sb : Addr) (cs : Int32) (h0 : Heap) (n0 : Nat) : Option Value → Heap → List Loc → Prop := fun v h L => ∃ r k, v = none ∧ Fr n0 L ∧ Keep h0 h [sb] ∧ n0 ≤ r ∧ h0.size ≤ r ∧ Fld Z h sb "java/lang/AbstractStringBuilder" "value" "[B" (.ref r) ∧ Fld Z h sb "java/lang/AbstractStringBuilder" "coder" "B" (.int 0) ∧ Fld Z h sb "java/lang/AbstractStringBuilder" "count" "I" (.int 0) ∧ Arv Z h r k .byte (16 : Int32) [(.int 0), (.int 0), (.int 0), (.int 0), (.int 0), (.int 0), (.int 0), (.int 0), (.int 0), (.int 0), (.int 0), (.int 0), (.int 0), (.int 0), (.int 0), (.int 0)] (.int 0)
theorem own_rm4 (l : Launch) (Z : State) (a0 : Array Value) (hw : own_W a0 Z) (sb : Addr) (cs : Int32) (h0 : Heap) (n0 : Nat) (Z0 : n0 ≤ h0.size) (O0 : Old Z n0 h0) (E_b : Exa Z h0 sb "java/lang/StringBuilder") (B_v : Fld Z h0 sb "java/lang/AbstractStringBuilder" "value" "[B" .null) (B_c : Fld Z h0 sb "java/lang/AbstractStringBuilder" "coder" "B" (.int 0)) (B_n : Fld Z h0 sb "java/lang/AbstractStringBuilder" "count" "I" (.int 0)) (g_b : n0 ≤ sb) (hcs : ¬ cs = (0 : Int32)) (S_cs : Sta Z Z.heap "java/lang/String" "COMPACT_STRINGS" "Z" (.int cs)) :
  own_MF l Z own_y9 (Jvm.Cond.code own_y9 jdk_67_method_1_code 1 none) [] own_r4 #[(.ref sb)] h0 (own_Q4 Z sb cs h0 n0) := by
 refine own_open (plainFor_of_name own_pn5) hisR (Ls := #[vr sb]) ?_
 intro p e s m below meth c s₁ Bd hZ hx hby hml hown X0 e0
 have N0 := Fr.nil n0
 refine own_st (T' := s₁) (g' := (mkF m 3 #[vr sb] [(.int 16), (.ref sb)])) (fun t k => ?_) ?_
 ·refine XS.aloadN X0.here hx rfl (hb hby own_d4_0) rfl rfl ?_
  refine XS.bipush X0.here hx rfl (hb hby own_d4_1) ?_
  exact k
 obtain ⟨_, _, ⟨T1, L1, c1, n1⟩, -, X1, ⟨Lc1, hQ1, l1, y1, z1⟩, st1⟩ := X0.specialBack hx (y := own_y8) rfl hown (om hZ hw 22 rfl) (om hZ hw 23 rfl) (om hZ hw 27 rfl) (by decide) (backOf (W := 0) (own_rm5 l Z a0 hw sb cs h0 n0 Z0 O0 E_b B_v B_c B_n g_b hcs S_cs) hZ (own_w hw 27 rfl) (own_w hw 26 rfl) (by decide) (by decide)) (g := (mkF m 3 #[vr sb] [(.int 16), (.ref sb)])) rfl (by rw [hml]; rfl) (Steps.refl _) (a := sb) (argsL := [(.int 16)]) (rest := []) (lenOf own_pd2 rfl) rfl (by show 2 * 0 + _ ≤ _; exact Nat.le_of_eq rfl) (hb hby own_d4_3) (fun _ _ => ⟨rfl, e0, (by decide : 0 + 1 ≤ _), (by decide : 0 + 16 ≤ _)⟩)
 dsimp only [Pt.U, Pt.locs, Pt.cells, Pt.slots] at X1 l1 y1 z1 st1 hQ1
 subst l1 y1 z1
 obtain ⟨h1, e1⟩ : ∃ z, T1.heap = z := ⟨_, rfl⟩
 rw [e1] at hQ1
 obtain ⟨r1, k1, rfl, N1q, Kc1, g1, hz1, Bv1, Bc1, Bn1, Vc1⟩ := hQ1
 have N1 := Fr.app N0 N1q
 have ne_sb_r1 : sb ≠ r1 := Nat.ne_of_lt (Nat.lt_of_lt_of_le E_b.lt hz1)
 have hwr1 : h0.size ≤ r1 := Nat.le_trans (Keep.refl h0 [sb]).1 hz1
 have K1 : Keep h0 h1 [sb] := (Keep.refl h0 [sb]).trans Kc1 (allS (Or.inl (List.mem_of_getElem? (i := 0) rfl)) all0)
 have Z1 : n0 ≤ h1.size := Nat.le_trans Z0 Kc1.1
 have O1 := O0.keep Kc1 (allS g_b all0)
 refine own_tr (T' := T1) (g' := (mkF m 6 #[vr sb] [])) st1 ?_
 exact own_retV X1 hx Bd (hb hby own_d4_6) e1 (⟨r1, k1, rfl, N1, K1, g1, hwr1, Bv1, Bc1, Bn1, Vc1⟩) (by decide) (by decide)
def own_r15 : Room := { frames := 1, cells := 1, slots := 34, locals := 18 }
def own_Q15 (Z : State) (bf : Addr) (kb : ClassId) (cs : Int32) (h0 : Heap) (n0 : Nat) : Option Value → Heap → List Loc → Prop := fun v h L => ∃ r k, v = some (.ref r) ∧ Fr n0 L ∧ Keep h0 h [] ∧ n0 ≤ r ∧ h0.size ≤ r ∧ Arv Z h r k .byte (34 : Int32) [(.int 0), (.int 0), (.int 0), (.int 0), (.int 0), (.int 0), (.int 0), (.int 0), (.int 0), (.int 0), (.int 0), (.int 0), (.int 0), (.int 0), (.int 0), (.int 0), (.int 0), (.int 0), (.int 0), (.int 0), (.int 0), (.int 0), (.int 0), (.int 0), (.int 0), (.int 0), (.int 0), (.int 0), (.int 0), (.int 0), (.int 0), (.int 0), (.int 0), (.int 0)] (.int 0)
theorem own_rm15 (l : Launch) (Z : State) (a0 : Array Value) (hw : own_W a0 Z) (bf : Addr) (kb : ClassId) (cs : Int32) (h0 : Heap) (n0 : Nat) (Z0 : n0 ≤ h0.size) (O0 : Old Z n0 h0) (V_b : Arv Z h0 bf kb .byte (16 : Int32) [(.int 0), (.int 0), (.int 0), (.int 0), (.int 0), (.int 0), (.int 0), (.int 0), (.int 0), (.int 0), (.int 0), (.int 0), (.int 0), (.int 0), (.int 0), (.int 0)] (.int 0)) (hcs : ¬ cs = (0 : Int32)) (S_cs : Sta Z Z.heap "java/lang/String" "COMPACT_STRINGS" "Z" (.int cs)) :
  own_MF l Z own_y10 (Jvm.Cond.code own_y10 jdk_65_method_121_code 3 (some (.array .byte))) [] own_r15 #[(.ref bf), (.int 34)] h0 (own_Q15 Z bf kb cs h0 n0) := by
 refine own_open (plainFor_of_name own_pn6) hisR (Ls := #[vr bf, vi 34, .unset]) ?_
 intro p e s m below meth c s₁ Bd hZ hx hby hml hown X0 e0
 have N0 := Fr.nil n0
 refine own_st (T' := s₁) (g' := (mkF m 2 #[vr bf, vi 34, .unset] [(.ref bf), (.int 34)])) (fun t k => ?_) ?_
 ·refine XS.iloadN X0.here hx rfl (hb hby own_d15_0) rfl ?_
  refine XS.aloadN X0.here hx rfl (hb hby own_d15_1) rfl rfl ?_
  exact k
 obtain ⟨cl1, Ar1, q1, S1, M1, H1, G1⟩ := id V_b
 refine own_st (T' := s₁) (g' := (mkF m 15 #[vr bf, vi 34, .unset] [(.int 34)])) (fun t k => ?_) ?_
 ·refine X0.arraylength hx (by rw [e0]; exact Ar1.1) (State.isArrayOf_alike hZ.alike Ar1.2.1) (g := (mkF m 2 #[vr bf, vi 34, .unset] [(.ref bf), (.int 34)])) rfl rfl (hb hby own_d15_2) _ ?_
  rw [len_of S1 M1]
  refine XS.icmpYes X0.here hx rfl (pc0 := 3) (pc' := 14) rfl (hb hby own_d15_3) rfl (feq (by decide : ¬ ((34 : Int32) = (16 : Int32)))).2 (by decide) (by decide) ?_
  refine XS.iloadN X0.here hx rfl (hb hby own_d15_14) rfl ?_
  exact k
 obtain ⟨T2, h2, k2, X2, e2, E2, A2, st2⟩ := newP X0 hx hZ (own_w hw 33 rfl) e0 (g := (mkF m 15 #[vr bf, vi 34, .unset] [(.int 34)])) rfl (hb hby own_d15_15) rfl (by decide) (cap := 34) (by decide) (by decide) (by decide) (by decide)
 obtain ⟨b2, g2⟩ : ∃ z, z = h0.size := ⟨_, rfl⟩
 rw [← g2] at A2 st2
 have sz2 : h0.size ≤ b2 := Nat.le_of_eq g2.symm
 have ne_bf_b2 : bf ≠ b2 := Nat.ne_of_lt (Nat.lt_of_lt_of_le V_b.lt sz2)
 have g_b2 : n0 ≤ b2 := Nat.le_trans Z0 sz2
 have hz_b2 : h0.size ≤ b2 := Nat.le_trans (Keep.refl h0 []).1 sz2
 have K2 : Keep h0 h2 [] := (Keep.refl h0 []).ext E2
 have Z2 : n0 ≤ h2.size := Nat.le_trans Z0 E2.1
 have O2 := O0.ext E2
 have V2 : Arv Z h2 b2 k2 .byte (34 : Int32) [(.int 0), (.int 0), (.int 0), (.int 0), (.int 0), (.int 0), (.int 0), (.int 0), (.int 0), (.int 0), (.int 0), (.int 0), (.int 0), (.int 0), (.int 0), (.int 0), (.int 0), (.int 0), (.int 0), (.int 0), (.int 0), (.int 0), (.int 0), (.int 0), (.int 0), (.int 0), (.int 0), (.int 0), (.int 0), (.int 0), (.int 0), (.int 0), (.int 0), (.int 0)] (.int 0) := (Arv.new A2 (by decide)).pad (pad_rep [] (.int 0) 34)
 refine own_st (T' := T2) (g' := (mkF m 17 #[vr bf, vi 34, .unset] [(.ref b2)])) st2 ?_
 refine own_st (T' := T2) (g' := (mkF m 23 #[vr bf, vi 34, vr b2] [(.ref bf), (.int 0), (.ref b2), (.int 0), (.ref bf)])) (fun t k => ?_) ?_
 ·refine XS.astoreN X2.here hx rfl (hb hby own_d15_17) rfl rfl (l' := #[vr bf, vi 34, vr b2]) rfl ?_
  refine XS.aloadN X2.here hx rfl (hb hby own_d15_18) rfl rfl ?_
  refine XS.iconst X2.here hx rfl (hb hby own_d15_19) ?_
  refine XS.aloadN X2.here hx rfl (hb hby own_d15_20) rfl rfl ?_
  refine XS.iconst X2.here hx rfl (hb hby own_d15_21) ?_
  refine XS.aloadN X2.here hx rfl (hb hby own_d15_22) rfl rfl ?_
  exact k
 have f3 := V_b.ext E2
 obtain ⟨cl4, Ar4, q4, S4, M4, H4, G4⟩ := id f3
 refine own_st (T' := T2) (g' := (mkF m 25 #[vr bf, vi 34, vr b2] [(.int 34), (.int 16), (.int 0), (.ref b2), (.int 0), (.ref bf)])) (fun t k => ?_) ?_
 ·refine X2.arraylength hx (by rw [e2]; exact Ar4.1) (State.isArrayOf_alike hZ.alike Ar4.2.1) (g := (mkF m 23 #[vr bf, vi 34, vr b2] [(.ref bf), (.int 0), (.ref b2), (.int 0), (.ref bf)])) rfl rfl (hb hby own_d15_23) _ ?_
  rw [len_of S4 M4]
  refine XS.iloadN X2.here hx rfl (hb hby own_d15_24) rfl ?_
  exact k
 obtain ⟨_, _, ⟨T5, L5, c5, n5⟩, -, X5, ⟨Lc5, hQ5, l5, y5, z5⟩, st5⟩ := Jvm.LawKit.callS X2 hx (y := own_y4) hown (om hZ hw 93 rfl) (om hZ hw 94 rfl) (om hZ hw 85 rfl) (om hZ hw 95 rfl) (by decide) (backOf (W := 4) (own_rm16_a l Z a0 hw h2 n0 Z2 ) hZ (own_w hw 95 rfl) (own_w hw 85 rfl) (by decide) (by decide)) (g := (mkF m 25 #[vr bf, vi 34, vr b2] [(.int 34), (.int 16), (.int 0), (.ref b2), (.int 0), (.ref bf)])) rfl (by rw [hml]; rfl) (argsL := [(.int 16), (.int 34)]) (rest := [(.int 0), (.ref b2), (.int 0), (.ref bf)]) (lenOf own_pd0 rfl) rfl (by show 2 * 0 + _ ≤ _; exact Nat.le_of_eq rfl) (hb hby own_d15_25) (fun _ _ => ⟨rfl, e2, (by decide : 1 + 0 ≤ _), (by decide : 34 + 0 ≤ _)⟩)
 dsimp only [Pt.U, Pt.locs, Pt.cells, Pt.slots] at X5 l5 y5 z5 st5 hQ5
 subst l5 y5 z5
 obtain ⟨rfl, N5q, e5⟩ := hQ5
 have N5 := Fr.app N0 N5q
 refine own_st (T' := T5) (g' := (mkF m 28 #[vr bf, vi 34, vr b2] [(.int 16), (.int 0), (.ref b2), (.int 0), (.ref bf)])) st5 ?_
 obtain ⟨T6, h6, Lc6, X6, e6, N6, Kc6, Vc6, st6⟩ := cpA X5 hx hZ hown (own_w hw 96 rfl) (own_w hw 99 rfl) (own_w hw 97 rfl) (own_w hw 98 rfl) e5 f3 V2 (Or.inl ⟨rfl, rfl⟩) (by decide) (by decide) (by decide) (by decide) (by decide) (us := [(.int 0), (.int 0), (.int 0), (.int 0), (.int 0), (.int 0), (.int 0), (.int 0), (.int 0), (.int 0), (.int 0), (.int 0), (.int 0), (.int 0), (.int 0), (.int 0)]) rfl (by decide) N5 g_b2 (g := (mkF m 28 #[vr bf, vi 34, vr b2] [(.int 16), (.int 0), (.ref b2), (.int 0), (.ref bf)])) rfl (by rw [hml]; rfl) rfl (hb hby own_d15_28) (by decide) (W := 0) (by show 2 * 0 + _ ≤ _; exact Nat.le_of_eq rfl) (by decide)
 have K6 : Keep h0 h6 [] := K2.trans Kc6 (allS (Or.inr hz_b2) all0)
 have Z6 : n0 ≤ h6.size := Nat.le_trans Z2 Kc6.1
 have O6 := O2.keep Kc6 (allS g_b2 all0)
 have Vd6 : Arv Z h6 b2 k2 .byte (34 : Int32) [(.int 0), (.int 0), (.int 0), (.int 0), (.int 0), (.int 0), (.int 0), (.int 0), (.int 0), (.int 0), (.int 0), (.int 0), (.int 0), (.int 0), (.int 0), (.int 0), (.int 0), (.int 0), (.int 0), (.int 0), (.int 0), (.int 0), (.int 0), (.int 0), (.int 0), (.int 0), (.int 0), (.int 0), (.int 0), (.int 0), (.int 0), (.int 0), (.int 0), (.int 0)] (.int 0) := Vc6
 refine own_st (T' := T6) (g' := (mkF m 31 #[vr bf, vi 34, vr b2] [])) st6 ?_
 refine own_st (T' := T6) (g' := (mkF m 32 #[vr bf, vi 34, vr b2] [(.ref b2)])) (fun t k => ?_) ?_
 ·refine XS.aloadN X6.here hx rfl (hb hby own_d15_31) rfl rfl ?_
  exact k
 exact own_retA X6 hx Bd rfl rfl (hb hby own_d15_32) e6 (⟨b2, k2, rfl, N6, K6, g_b2, hz_b2, Vd6⟩) (by decide) (by decide)
def own_r12 : Room := { frames := 2, cells := 0, slots := 0, locals := 29 }
theorem own_rm12 (l : Launch) (Z : State) (a0 : Array Value) (hw : own_W a0 Z) (sb bf : Addr) (kb : ClassId) (cs : Int32) (h0 : Heap) (n0 : Nat) (Z0 : n0 ≤ h0.size) (O0 : Old Z n0 h0) (E_b : Exa Z h0 sb "java/lang/StringBuilder") (B_v : Fld Z h0 sb "java/lang/AbstractStringBuilder" "value" "[B" (.ref bf)) (B_c : Fld Z h0 sb "java/lang/AbstractStringBuilder" "coder" "B" (.int 0)) (B_n : Fld Z h0 sb "java/lang/AbstractStringBuilder" "count" "I" (.int 0)) (V_b : Arv Z h0 bf kb .byte (16 : Int32) [(.int 0), (.int 0), (.int 0), (.int 0), (.int 0), (.int 0), (.int 0), (.int 0), (.int 0), (.int 0), (.int 0), (.int 0), (.int 0), (.int 0), (.int 0), (.int 0)] (.int 0)) (hcs : ¬ cs = (0 : Int32)) (S_cs : Sta Z Z.heap "java/lang/String" "COMPACT_STRINGS" "Z" (.int cs)) :
  own_MF l Z own_y11 (Jvm.Cond.code own_y11 jdk_68_method_10_code 6 (some .int)) [] own_r12 #[(.ref sb), (.int 22)] h0 (own_P h0 n0 (.int 34)) := by
 refine own_open (plainFor_of_name own_pn4) hisR (Ls := #[vr sb, vi 22, .unset, .unset, .unset, .unset]) ?_
 intro p e s m below meth c s₁ Bd hZ hx hby hml hown X0 e0
 have N0 := Fr.nil n0
 refine own_st (T' := s₁) (g' := (mkF m 1 #[vr sb, vi 22, .unset, .unset, .unset, .unset] [(.ref sb)])) (fun t k => ?_) ?_
 ·refine XS.aloadN X0.here hx rfl (hb hby own_d12_0) rfl rfl ?_
  exact k
 obtain ⟨T1, X1, e1, st1⟩ := getF X0 hx hZ hown (host := "") (Or.inl (own_w hw 34 rfl)) Via.refl e0 B_v (g := (mkF m 1 #[vr sb, vi 22, .unset, .unset, .unset, .unset] [(.ref sb)])) rfl rfl (hb hby own_d12_1)
 refine own_st (T' := T1) (g' := (mkF m 4 #[vr sb, vi 22, .unset, .unset, .unset, .unset] [(.ref bf)])) st1 ?_
 obtain ⟨cl2, Ar2, q2, S2, M2, H2, G2⟩ := id V_b
 refine own_st (T' := T1) (g' := (mkF m 8 #[vr sb, vi 22, vi 16, .unset, .unset, .unset] [(.ref sb), (.int 22)])) (fun t k => ?_) ?_
 ·refine X1.arraylength hx (by rw [e1]; exact Ar2.1) (State.isArrayOf_alike hZ.alike Ar2.2.1) (g := (mkF m 4 #[vr sb, vi 22, .unset, .unset, .unset, .unset] [(.ref bf)])) rfl rfl (hb hby own_d12_4) _ ?_
  rw [len_of S2 M2]
  refine XS.istoreN X1.here hx rfl (hb hby own_d12_5) rfl (l' := #[vr sb, vi 22, vi 16, .unset, .unset, .unset]) rfl ?_
  refine XS.iloadN X1.here hx rfl (hb hby own_d12_6) rfl ?_
  refine XS.aloadN X1.here hx rfl (hb hby own_d12_7) rfl rfl ?_
  exact k
 obtain ⟨T3, X3, e3, st3⟩ := getF X1 hx hZ hown (host := "") (Or.inl (own_w hw 36 rfl)) Via.refl e1 B_c (g := (mkF m 8 #[vr sb, vi 22, vi 16, .unset, .unset, .unset] [(.ref sb), (.int 22)])) rfl rfl (hb hby own_d12_8)
 refine own_st (T' := T3) (g' := (mkF m 11 #[vr sb, vi 22, vi 16, .unset, .unset, .unset] [(.int 0), (.int 22)])) st3 ?_
 refine own_st (T' := T3) (g' := (mkF m 24 #[vr sb, vi 22, vi 16, vi 22, vi 6, .unset] [(.ref sb), (.int 2), (.int 16), (.int 6), (.int 16)])) (fun t k => ?_) ?_
 ·refine XS.ishl X3.here hx rfl (hb hby own_d12_11) rfl ?_
  refine XS.istoreN X3.here hx rfl (hb hby own_d12_12) rfl (l' := #[vr sb, vi 22, vi 16, vi 22, .unset, .unset]) rfl ?_
  refine XS.iloadN X3.here hx rfl (hb hby own_d12_13) rfl ?_
  refine XS.iloadN X3.here hx rfl (hb hby own_d12_14) rfl ?_
  refine XS.isub X3.here hx rfl (hb hby own_d12_15) rfl ?_
  refine XS.istore X3.here hx rfl (hb hby own_d12_16) rfl (l' := #[vr sb, vi 22, vi 16, vi 22, vi 6, .unset]) rfl ?_
  refine XS.iloadN X3.here hx rfl (hb hby own_d12_18) rfl ?_
  refine XS.iload X3.here hx rfl (hb hby own_d12_19) rfl ?_
  refine XS.iloadN X3.here hx rfl (hb hby own_d12_21) rfl ?_
  refine XS.iconst X3.here hx rfl (hb hby own_d12_22) ?_
  refine XS.aloadN X3.here hx rfl (hb hby own_d12_23) rfl rfl ?_
  exact k
 obtain ⟨T4, X4, e4, st4⟩ := getF X3 hx hZ hown (host := "") (Or.inl (own_w hw 36 rfl)) Via.refl e3 B_c (g := (mkF m 24 #[vr sb, vi 22, vi 16, vi 22, vi 6, .unset] [(.ref sb), (.int 2), (.int 16), (.int 6), (.int 16)])) rfl rfl (hb hby own_d12_24)
 refine own_st (T' := T4) (g' := (mkF m 27 #[vr sb, vi 22, vi 16, vi 22, vi 6, .unset] [(.int 0), (.int 2), (.int 16), (.int 6), (.int 16)])) st4 ?_
 refine own_st (T' := T4) (g' := (mkF m 29 #[vr sb, vi 22, vi 16, vi 22, vi 6, .unset] [(.int 18), (.int 6), (.int 16)])) (fun t k => ?_) ?_
 ·refine XS.ishl X4.here hx rfl (hb hby own_d12_27) rfl ?_
  refine XS.iadd X4.here hx rfl (hb hby own_d12_28) rfl ?_
  exact k
 obtain ⟨_, _, ⟨T5, L5, c5, n5⟩, -, X5, ⟨Lc5, hQ5, l5, y5, z5⟩, st5⟩ := Jvm.LawKit.callS X4 hx (y := own_y5) hown (om hZ hw 79 rfl) (om hZ hw 80 rfl) (om hZ hw 81 rfl) (om hZ hw 82 rfl) (by decide) (backOf (W := 0) (own_rm13 l Z a0 hw h0 n0 Z0 ) hZ (own_w hw 82 rfl) (own_w hw 81 rfl) (by decide) (by decide)) (g := (mkF m 29 #[vr sb, vi 22, vi 16, vi 22, vi 6, .unset] [(.int 18), (.int 6), (.int 16)])) rfl (by rw [hml]; rfl) (argsL := [(.int 16), (.int 6), (.int 18)]) (rest := []) (lenOf own_pd3 rfl) rfl (by show 2 * 0 + _ ≤ _; exact Nat.le_of_eq rfl) (hb hby own_d12_29) (fun _ _ => ⟨rfl, e4, (by decide : 0 + 0 ≤ _), (by decide : 0 + 0 ≤ _)⟩)
 dsimp only [Pt.U, Pt.locs, Pt.cells, Pt.slots] at X5 l5 y5 z5 st5 hQ5
 subst l5 y5 z5
 obtain ⟨rfl, N5q, e5⟩ := hQ5
 have N5 := Fr.app N0 N5q
 refine own_st (T' := T5) (g' := (mkF m 32 #[vr sb, vi 22, vi 16, vi 22, vi 6, .unset] [(.int 34)])) st5 ?_
 refine own_st (T' := T5) (g' := (mkF m 54 #[vr sb, vi 22, vi 16, vi 22, vi 6, vi 34] [(.ref sb), (.int 34)])) (fun t k => ?_) ?_
 ·refine XS.istore X5.here hx rfl (hb hby own_d12_32) rfl (l' := #[vr sb, vi 22, vi 16, vi 22, vi 6, vi 34]) rfl ?_
  refine XS.iload X5.here hx rfl (hb hby own_d12_34) rfl ?_
  refine X5.ldcInt hx hown (om hZ hw 88 rfl) (g := (mkF m 36 #[vr sb, vi 22, vi 16, vi 22, vi 6, vi 34] [(.int 34)])) rfl (hb hby own_d12_36) _ ?_
  refine XS.icmpYes X5.here hx rfl (pc0 := 38) (pc' := 51) rfl (hb hby own_d12_38) rfl (feq (by decide : ¬ ((34 : Int32) = (2147483647 : Int32)))).2 (by decide) (by decide) ?_
  refine XS.iload X5.here hx rfl (hb hby own_d12_51) rfl ?_
  refine XS.aloadN X5.here hx rfl (hb hby own_d12_53) rfl rfl ?_
  exact k
 obtain ⟨T6, X6, e6, st6⟩ := getF X5 hx hZ hown (host := "") (Or.inl (own_w hw 36 rfl)) Via.refl e5 B_c (g := (mkF m 54 #[vr sb, vi 22, vi 16, vi 22, vi 6, vi 34] [(.ref sb), (.int 34)])) rfl rfl (hb hby own_d12_54)
 refine own_st (T' := T6) (g' := (mkF m 57 #[vr sb, vi 22, vi 16, vi 22, vi 6, vi 34] [(.int 0), (.int 34)])) st6 ?_
 refine own_st (T' := T6) (g' := (mkF m 58 #[vr sb, vi 22, vi 16, vi 22, vi 6, vi 34] [(.int 34)])) (fun t k => ?_) ?_
 ·refine XS.ishr X6.here hx rfl (hb hby own_d12_57) rfl ?_
  exact k
 exact own_retI X6 hx Bd (hb hby own_d12_58) e6 (⟨rfl, N5, rfl⟩) (by decide) (by decide)
def own_r11_a : Room := { frames := 3, cells := 1, slots := 34, locals := 48 }
def own_Q11_a (Z : State) (sb bf : Addr) (kb : ClassId) (cs : Int32) (h0 : Heap) (n0 : Nat) : Option Value → Heap → List Loc → Prop := fun v h L => ∃ r k, v = none ∧ Fr n0 L ∧ Keep h0 h [sb] ∧ n0 ≤ r ∧ h0.size ≤ r ∧ Fld Z h sb "java/lang/AbstractStringBuilder" "value" "[B" (.ref r) ∧ Fld Z h sb "java/lang/AbstractStringBuilder" "coder" "B" (.int 0) ∧ Fld Z h sb "java/lang/AbstractStringBuilder" "count" "I" (.int 0) ∧ Arv Z h r k .byte (34 : Int32) [(.int 0), (.int 0), (.int 0), (.int 0), (.int 0), (.int 0), (.int 0), (.int 0), (.int 0), (.int 0), (.int 0), (.int 0), (.int 0), (.int 0), (.int 0), (.int 0), (.int 0), (.int 0), (.int 0), (.int 0), (.int 0), (.int 0), (.int 0), (.int 0), (.int 0), (.int 0), (.int 0), (.int 0), (.int 0), (.int 0), (.int 0), (.int 0), (.int 0), (.int 0)] (.int 0)
theorem own_rm11_a (l : Launch) (Z : State) (a0 : Array Value) (hw : own_W a0 Z) (sb bf : Addr) (kb : ClassId) (cs : Int32) (h0 : Heap) (n0 : Nat) (Z0 : n0 ≤ h0.size) (O0 : Old Z n0 h0) (E_b : Exa Z h0 sb "java/lang/StringBuilder") (B_v : Fld Z h0 sb "java/lang/AbstractStringBuilder" "value" "[B" (.ref bf)) (B_c : Fld Z h0 sb "java/lang/AbstractStringBuilder" "coder" "B" (.int 0)) (B_n : Fld Z h0 sb "java/lang/AbstractStringBuilder" "count" "I" (.int 0)) (V_b : Arv Z h0 bf kb .byte (16 : Int32) [(.int 0), (.int 0), (.int 0), (.int 0), (.int 0), (.int 0), (.int 0), (.int 0), (.int 0), (.int 0), (.int 0), (.int 0), (.int 0), (.int 0), (.int 0), (.int 0)] (.int 0)) (g_b : n0 ≤ sb) (nsb : sb ≠ bf) (hcs : ¬ cs = (0 : Int32)) (S_cs : Sta Z Z.heap "java/lang/String" "COMPACT_STRINGS" "Z" (.int cs)) :
  own_MF l Z own_y12 (Jvm.Cond.code own_y12 jdk_68_method_9_code 3 none) [] own_r11_a #[(.ref sb), (.int 22)] h0 (own_Q11_a Z sb bf kb cs h0 n0) := by
 refine own_open (plainFor_of_name own_pn4) hisR (Ls := #[vr sb, vi 22, .unset]) ?_
 intro p e s m below meth c s₁ Bd hZ hx hby hml hown X0 e0
 have N0 := Fr.nil n0
 refine own_st (T' := s₁) (g' := (mkF m 1 #[vr sb, vi 22, .unset] [(.ref sb)])) (fun t k => ?_) ?_
 ·refine XS.aloadN X0.here hx rfl (hb hby own_d11_0) rfl rfl ?_
  exact k
 obtain ⟨T1, X1, e1, st1⟩ := getF X0 hx hZ hown (host := "") (Or.inl (own_w hw 34 rfl)) Via.refl e0 B_v (g := (mkF m 1 #[vr sb, vi 22, .unset] [(.ref sb)])) rfl rfl (hb hby own_d11_1)
 refine own_st (T' := T1) (g' := (mkF m 4 #[vr sb, vi 22, .unset] [(.ref bf)])) st1 ?_
 obtain ⟨cl2, Ar2, q2, S2, M2, H2, G2⟩ := id V_b
 refine own_st (T' := T1) (g' := (mkF m 6 #[vr sb, vi 22, .unset] [(.ref sb), (.int 16)])) (fun t k => ?_) ?_
 ·refine X1.arraylength hx (by rw [e1]; exact Ar2.1) (State.isArrayOf_alike hZ.alike Ar2.2.1) (g := (mkF m 4 #[vr sb, vi 22, .unset] [(.ref bf)])) rfl rfl (hb hby own_d11_4) _ ?_
  rw [len_of S2 M2]
  refine XS.aloadN X1.here hx rfl (hb hby own_d11_5) rfl rfl ?_
  exact k
 obtain ⟨T3, X3, e3, st3⟩ := getF X1 hx hZ hown (host := "") (Or.inl (own_w hw 36 rfl)) Via.refl e1 B_c (g := (mkF m 6 #[vr sb, vi 22, .unset] [(.ref sb), (.int 16)])) rfl rfl (hb hby own_d11_6)
 refine own_st (T' := T3) (g' := (mkF m 9 #[vr sb, vi 22, .unset] [(.int 0), (.int 16)])) st3 ?_
 refine own_st (T' := T3) (g' := (mkF m 19 #[vr sb, vi 22, vi 16] [(.ref sb), (.ref sb)])) (fun t k => ?_) ?_
 ·refine XS.ishr X3.here hx rfl (hb hby own_d11_9) rfl ?_
  refine XS.istoreN X3.here hx rfl (hb hby own_d11_10) rfl (l' := #[vr sb, vi 22, vi 16]) rfl ?_
  refine XS.iloadN X3.here hx rfl (hb hby own_d11_11) rfl ?_
  refine XS.iloadN X3.here hx rfl (hb hby own_d11_12) rfl ?_
  refine XS.isub X3.here hx rfl (hb hby own_d11_13) rfl ?_
  refine XS.ifNo X3.here hx rfl (hb hby own_d11_14) rfl ((if0 _ _).trans (tlt (by decide : (0 : Int32) < (6 : Int32))).2.2.2) ?_
  refine XS.aloadN X3.here hx rfl (hb hby own_d11_17) rfl rfl ?_
  refine XS.aloadN X3.here hx rfl (hb hby own_d11_18) rfl rfl ?_
  exact k
 obtain ⟨T4, X4, e4, st4⟩ := getF X3 hx hZ hown (host := "") (Or.inl (own_w hw 34 rfl)) Via.refl e3 B_v (g := (mkF m 19 #[vr sb, vi 22, vi 16] [(.ref sb), (.ref sb)])) rfl rfl (hb hby own_d11_19)
 refine own_st (T' := T4) (g' := (mkF m 22 #[vr sb, vi 22, vi 16] [(.ref bf), (.ref sb)])) st4 ?_
 refine own_st (T' := T4) (g' := (mkF m 24 #[vr sb, vi 22, vi 16] [(.int 22), (.ref sb), (.ref bf), (.ref sb)])) (fun t k => ?_) ?_
 ·refine XS.aloadN X4.here hx rfl (hb hby own_d11_22) rfl rfl ?_
  refine XS.iloadN X4.here hx rfl (hb hby own_d11_23) rfl ?_
  exact k
 obtain ⟨cq5, q5, q5'⟩ := E_b.cell
 obtain ⟨_, _, ⟨T5, L5, c5, n5⟩, -, X5, ⟨Lc5, hQ5, l5, y5, z5⟩, st5⟩ := X4.privateBack hx (y := own_y11) hown (om hZ hw 74 rfl) (om hZ hw 75 rfl) (own_selp (om hZ hw 77 rfl) (Cond.privateMethod_at (mvP hZ (own_w hw 76 rfl) (args := #[]))) (om hZ hw 75 rfl (args := #[])) (by decide)) (Cond.privateMethod_at (mvP hZ (own_w hw 76 rfl) (args := #[]))) (om hZ hw 78 rfl) (by decide) (backOf (W := 2) (own_rm12 l Z a0 hw sb bf kb cs h0 n0 Z0 O0 E_b B_v B_c B_n V_b hcs S_cs) hZ (own_w hw 78 rfl) (own_w hw 26 rfl) (by decide) (by decide)) (g := (mkF m 24 #[vr sb, vi 22, vi 16] [(.int 22), (.ref sb), (.ref bf), (.ref sb)])) rfl (by rw [hml]; rfl) (Steps.refl _) (a := sb) (by rw [e4]; exact q5) q5' (argsL := [(.int 22)]) (rest := [(.ref bf), (.ref sb)]) (lenOf own_pd4 rfl) rfl (by show 2 * 0 + _ ≤ _; exact Nat.le_of_eq rfl) (hb hby own_d11_24) (fun _ _ => ⟨rfl, e4, (by decide : 0 + 0 ≤ _), (by decide : 0 + 0 ≤ _)⟩)
 dsimp only [Pt.U, Pt.locs, Pt.cells, Pt.slots] at X5 l5 y5 z5 st5 hQ5
 subst l5 y5 z5
 obtain ⟨rfl, N5q, e5⟩ := hQ5
 have N5 := Fr.app N0 N5q
 refine own_tr (T' := T5) (g' := (mkF m 27 #[vr sb, vi 22, vi 16] [(.int 34), (.ref bf), (.ref sb)])) st5 ?_
 refine own_st (T' := T5) (g' := (mkF m 28 #[vr sb, vi 22, vi 16] [(.ref sb), (.int 34), (.ref bf), (.ref sb)])) (fun t k => ?_) ?_
 ·refine XS.aloadN X5.here hx rfl (hb hby own_d11_27) rfl rfl ?_
  exact k
 obtain ⟨T6, X6, e6, st6⟩ := getF X5 hx hZ hown (host := "") (Or.inl (own_w hw 36 rfl)) Via.refl e5 B_c (g := (mkF m 28 #[vr sb, vi 22, vi 16] [(.ref sb), (.int 34), (.ref bf), (.ref sb)])) rfl rfl (hb hby own_d11_28)
 refine own_st (T' := T6) (g' := (mkF m 31 #[vr sb, vi 22, vi 16] [(.int 0), (.int 34), (.ref bf), (.ref sb)])) st6 ?_
 refine own_st (T' := T6) (g' := (mkF m 32 #[vr sb, vi 22, vi 16] [(.int 34), (.ref bf), (.ref sb)])) (fun t k => ?_) ?_
 ·refine XS.ishl X6.here hx rfl (hb hby own_d11_31) rfl ?_
  exact k
 obtain ⟨_, _, ⟨T7, L7, c7, n7⟩, -, X7, ⟨Lc7, hQ7, l7, y7, z7⟩, st7⟩ := Jvm.LawKit.callS X6 hx (y := own_y10) hown (om hZ hw 89 rfl) (om hZ hw 90 rfl) (om hZ hw 91 rfl) (om hZ hw 92 rfl) (by decide) (backOf (W := 1) (own_rm15 l Z a0 hw bf kb cs h0 n0 Z0 O0 V_b hcs S_cs) hZ (own_w hw 92 rfl) (own_w hw 91 rfl) (by decide) (by decide)) (g := (mkF m 32 #[vr sb, vi 22, vi 16] [(.int 34), (.ref bf), (.ref sb)])) rfl (by rw [hml]; rfl) (argsL := [(.ref bf), (.int 34)]) (rest := [(.ref sb)]) (lenOf own_pd5 rfl) rfl (by show 2 * 0 + _ ≤ _; exact Nat.le_of_eq rfl) (hb hby own_d11_32) (fun _ _ => ⟨rfl, e6, (by decide : 0 + 1 ≤ _), (by decide : 0 + 34 ≤ _)⟩)
 dsimp only [Pt.U, Pt.locs, Pt.cells, Pt.slots] at X7 l7 y7 z7 st7 hQ7
 subst l7 y7 z7
 obtain ⟨h7, e7⟩ : ∃ z, T7.heap = z := ⟨_, rfl⟩
 rw [e7] at hQ7
 obtain ⟨r7, k7, rfl, N7q, Kc7, g7, hz7, Vc7⟩ := hQ7
 have N7 := Fr.app N5 N7q
 have ne_sb_r7 : sb ≠ r7 := Nat.ne_of_lt (Nat.lt_of_lt_of_le E_b.lt hz7)
 have ne_bf_r7 : bf ≠ r7 := Nat.ne_of_lt (Nat.lt_of_lt_of_le V_b.lt hz7)
 have hwr7 : h0.size ≤ r7 := Nat.le_trans (Keep.refl h0 [sb]).1 hz7
 have K7 : Keep h0 h7 [sb] := (Keep.refl h0 [sb]).trans Kc7 all0
 have Z7 : n0 ≤ h7.size := Nat.le_trans Z0 Kc7.1
 have O7 := O0.keep Kc7 all0
 refine own_st (T' := T7) (g' := (mkF m 35 #[vr sb, vi 22, vi 16] [(.ref r7), (.ref sb)])) st7 ?_
 have f8 := B_v.keep Kc7 nin0
 have f9 := E_b.keep Kc7
 obtain ⟨T10, h10, X10, e10, W10, st10⟩ := putF X7 hx hZ hown (host := "") (Or.inl (own_w hw 34 rfl)) Via.refl e7 f8 f9 (Or.inl (own_w hw 35 rfl)) (own_w hw 17 rfl) (ty := (.array .byte)) (by decide) rfl rfl (g := (mkF m 35 #[vr sb, vi 22, vi 16] [(.ref r7), (.ref sb)])) rfl rfl (hb hby own_d11_35)
 have N10 := Fr.snoc X10 N7 g_b
 have K10 : Keep h0 h10 [sb] := K7.wr W10 (Or.inl (List.mem_of_getElem? (i := 0) rfl))
 have Z10 : n0 ≤ h10.size := Nat.le_trans Z7 (Keep.of_wr W10).1
 have O10 := O7.wr W10 g_b
 have fw10 := (f8.same W10)
 refine own_st (T' := T10) (g' := (mkF m 38 #[vr sb, vi 22, vi 16] [])) st10 ?_
 have f11 := (B_c.keep Kc7 nin0).other W10 (Or.inr (slot_ne (Or.inl (own_w hw 37 rfl)) (Or.inl (own_w hw 35 rfl)) (by decide) (t := .byte) (t' := (.array .byte)) (by decide) (by decide)))
 have f12 := (B_n.keep Kc7 nin0).other W10 (Or.inr (slot_ne (Or.inl (own_w hw 68 rfl)) (Or.inl (own_w hw 35 rfl)) (by decide) (t := .int) (t' := (.array .byte)) (by decide) (by decide)))
 have f13 := Vc7.other W10 (Ne.symm ne_sb_r7)
 exact own_retV X10 hx Bd (hb hby own_d11_38) e10 (⟨r7, k7, rfl, N10, K10, g7, hwr7, fw10, f11, f12, f13⟩) (by decide) (by decide)
def own_r11_b : Room := { frames := 0, cells := 0, slots := 0, locals := 0 }
def own_Q11_b (Z : State) (sb bf : Addr) (kb : ClassId) (sv : Int32) (cs : Int32) (h0 : Heap) (n0 : Nat) : Option Value → Heap → List Loc → Prop := fun v h L => v = none ∧ Fr n0 L ∧ h = h0
theorem own_rm11_b (l : Launch) (Z : State) (a0 : Array Value) (hw : own_W a0 Z) (sb bf : Addr) (kb : ClassId) (sv : Int32) (cs : Int32) (h0 : Heap) (n0 : Nat) (Z0 : n0 ≤ h0.size) (O0 : Old Z n0 h0) (E_b : Exa Z h0 sb "java/lang/StringBuilder") (B_v : Fld Z h0 sb "java/lang/AbstractStringBuilder" "value" "[B" (.ref bf)) (B_c : Fld Z h0 sb "java/lang/AbstractStringBuilder" "coder" "B" (.int 0)) (B_n : Fld Z h0 sb "java/lang/AbstractStringBuilder" "count" "I" (.int 22)) (V_b : Arv Z h0 bf kb .byte (34 : Int32) (own_lit34.map Value.int) (.int 0)) (hcs : ¬ cs = (0 : Int32)) (S_cs : Sta Z Z.heap "java/lang/String" "COMPACT_STRINGS" "Z" (.int cs)) :
  own_MF l Z own_y12 (Jvm.Cond.code own_y12 jdk_68_method_9_code 3 none) [] own_r11_b #[(.ref sb), (.int (own_L sv))] h0 (own_Q11_b Z sb bf kb sv cs h0 n0) := by
 refine own_open (plainFor_of_name own_pn4) hisR (Ls := #[vr sb, vi (own_L sv), .unset]) ?_
 intro p e s m below meth c s₁ Bd hZ hx hby hml hown X0 e0
 have N0 := Fr.nil n0
 refine own_st (T' := s₁) (g' := (mkF m 1 #[vr sb, vi (own_L sv), .unset] [(.ref sb)])) (fun t k => ?_) ?_
 ·refine XS.aloadN X0.here hx rfl (hb hby own_d11_0) rfl rfl ?_
  exact k
 obtain ⟨T1, X1, e1, st1⟩ := getF X0 hx hZ hown (host := "") (Or.inl (own_w hw 34 rfl)) Via.refl e0 B_v (g := (mkF m 1 #[vr sb, vi (own_L sv), .unset] [(.ref sb)])) rfl rfl (hb hby own_d11_1)
 refine own_st (T' := T1) (g' := (mkF m 4 #[vr sb, vi (own_L sv), .unset] [(.ref bf)])) st1 ?_
 obtain ⟨cl2, Ar2, q2, S2, M2, H2, G2⟩ := id V_b
 refine own_st (T' := T1) (g' := (mkF m 6 #[vr sb, vi (own_L sv), .unset] [(.ref sb), (.int 34)])) (fun t k => ?_) ?_
 ·refine X1.arraylength hx (by rw [e1]; exact Ar2.1) (State.isArrayOf_alike hZ.alike Ar2.2.1) (g := (mkF m 4 #[vr sb, vi (own_L sv), .unset] [(.ref bf)])) rfl rfl (hb hby own_d11_4) _ ?_
  rw [len_of S2 M2]
  refine XS.aloadN X1.here hx rfl (hb hby own_d11_5) rfl rfl ?_
  exact k
 obtain ⟨T3, X3, e3, st3⟩ := getF X1 hx hZ hown (host := "") (Or.inl (own_w hw 36 rfl)) Via.refl e1 B_c (g := (mkF m 6 #[vr sb, vi (own_L sv), .unset] [(.ref sb), (.int 34)])) rfl rfl (hb hby own_d11_6)
 refine own_st (T' := T3) (g' := (mkF m 9 #[vr sb, vi (own_L sv), .unset] [(.int 0), (.int 34)])) st3 ?_
 refine own_st (T' := T3) (g' := (mkF m 38 #[vr sb, vi (own_L sv), vi 34] [])) (fun t k => ?_) ?_
 ·refine XS.ishr X3.here hx rfl (hb hby own_d11_9) rfl ?_
  refine XS.istoreN X3.here hx rfl (hb hby own_d11_10) rfl (l' := #[vr sb, vi (own_L sv), vi 34]) rfl ?_
  refine XS.iloadN X3.here hx rfl (hb hby own_d11_11) rfl ?_
  refine XS.iloadN X3.here hx rfl (hb hby own_d11_12) rfl ?_
  refine XS.isub X3.here hx rfl (hb hby own_d11_13) rfl ?_
  refine XS.ifYes X3.here hx rfl (pc0 := 14) (pc' := 38) rfl (hb hby own_d11_14) rfl ((if0 _ _).trans (flt (own_nog sv)).2.2.2) (by decide) (by decide) ?_
  exact k
 exact own_retV X3 hx Bd (hb hby own_d11_38) e3 (⟨rfl, N0, rfl⟩) (by decide) (by decide)
def own_r18 : Room := { frames := 1, cells := 0, slots := 0, locals := 13 }
def own_Q18 (Z : State) (sb bf : Addr) (st : Addr) (cs : Int32) (h0 : Heap) (n0 : Nat) : Option Value → Heap → List Loc → Prop := fun v h L => v = none ∧ Fr n0 L ∧ h = h0
theorem own_rm18 (l : Launch) (Z : State) (a0 : Array Value) (hw : own_W a0 Z) (sb bf : Addr) (st : Addr) (cs : Int32) (h0 : Heap) (n0 : Nat) (Z0 : n0 ≤ h0.size) (O0 : Old Z n0 h0) (E_b : Exa Z h0 sb "java/lang/StringBuilder") (B_v : Fld Z h0 sb "java/lang/AbstractStringBuilder" "value" "[B" (.ref bf)) (B_c : Fld Z h0 sb "java/lang/AbstractStringBuilder" "coder" "B" (.int 0)) (B_n : Fld Z h0 sb "java/lang/AbstractStringBuilder" "count" "I" (.int 0)) (E_s : Exa Z h0 st "java/lang/String") (F_c : Fld Z h0 st "java/lang/String" "coder" "B" (.int 0)) (hcs : ¬ cs = (0 : Int32)) (S_cs : Sta Z Z.heap "java/lang/String" "COMPACT_STRINGS" "Z" (.int cs)) :
  own_MF l Z own_y13 (Jvm.Cond.code own_y13 jdk_68_method_71_code 2 none) [] own_r18 #[(.ref sb), (.ref st)] h0 (own_Q18 Z sb bf st cs h0 n0) := by
 refine own_open (plainFor_of_name own_pn4) hisR (Ls := #[vr sb, vr st]) ?_
 intro p e s m below meth c s₁ Bd hZ hx hby hml hown X0 e0
 have N0 := Fr.nil n0
 have f1 := S_cs.ext O0.2
 obtain ⟨T2, X2, e2, st2⟩ := getS2 X0 hx hZ hown (host := "") (Or.inl (own_w hw 31 rfl)) Via.refl e0 f1 (g := (mkF m 0 #[vr sb, vr st] [])) rfl (hb hby own_d18_0)
 refine own_st (T' := T2) (g' := (mkF m 3 #[vr sb, vr st] [(.int cs)])) st2 ?_
 refine own_st (T' := T2) (g' := (mkF m 7 #[vr sb, vr st] [(.ref sb)])) (fun t k => ?_) ?_
 ·refine XS.ifNo X2.here hx rfl (hb hby own_d18_3) rfl ((if0 _ _).trans (feq hcs).1) ?_
  refine XS.aloadN X2.here hx rfl (hb hby own_d18_6) rfl rfl ?_
  exact k
 obtain ⟨T3, X3, e3, st3⟩ := getF X2 hx hZ hown (host := "") (Or.inl (own_w hw 36 rfl)) Via.refl e2 B_c (g := (mkF m 7 #[vr sb, vr st] [(.ref sb)])) rfl rfl (hb hby own_d18_7)
 refine own_st (T' := T3) (g' := (mkF m 10 #[vr sb, vr st] [(.int 0)])) st3 ?_
 refine own_st (T' := T3) (g' := (mkF m 11 #[vr sb, vr st] [(.ref st), (.int 0)])) (fun t k => ?_) ?_
 ·refine XS.aloadN X3.here hx rfl (hb hby own_d18_10) rfl rfl ?_
  exact k
 obtain ⟨cq4, kq4, q4a, q4b, q4c⟩ := isOf hZ e3 E_s
 obtain ⟨_, _, ⟨T4, L4, c4, n4⟩, -, X4, ⟨Lc4, hQ4, l4, y4, z4⟩, st4⟩ := X3.virtualBack hx (y := own_y6) (z := own_y6) hown (om hZ hw 110 rfl) (om hZ hw 61 rfl) (notFace_of_selects (args := #[]) (om hZ hw 63 rfl)) (om hZ hw 63 rfl) (om hZ hw 62 rfl) (by decide) (backOf (W := 1) (own_rm10 l Z a0 hw st cs h0 n0 Z0 O0 F_c hcs S_cs) hZ (own_w hw 64 rfl) (own_w hw 32 rfl) (by decide) (by decide)) q4a q4c (g := (mkF m 11 #[vr sb, vr st] [(.ref st), (.int 0)])) rfl (by rw [hml]; rfl) (Steps.refl _) (argsL := []) (rest := [(.int 0)]) (lenOf own_pd1 rfl) rfl (by show 2 * 0 + _ ≤ _; exact Nat.le_of_eq rfl) (hb hby own_d18_11) (fun _ _ => ⟨rfl, e3, (by decide : 0 + 0 ≤ _), (by decide : 0 + 0 ≤ _)⟩)
 dsimp only [Pt.U, Pt.locs, Pt.cells, Pt.slots] at X4 l4 y4 z4 st4 hQ4
 subst l4 y4 z4
 obtain ⟨rfl, N4q, e4⟩ := hQ4
 have N4 := Fr.app N0 N4q
 refine own_tr (T' := T4) (g' := (mkF m 14 #[vr sb, vr st] [(.int 0), (.int 0)])) st4 ?_
 refine own_st (T' := T4) (g' := (mkF m 21 #[vr sb, vr st] [])) (fun t k => ?_) ?_
 ·refine XS.icmpYes X4.here hx rfl (pc0 := 14) (pc' := 21) rfl (hb hby own_d18_14) rfl (teq (rfl : (0 : Int32) = (0 : Int32))).1 (by decide) (by decide) ?_
  exact k
 exact own_retV X4 hx Bd (hb hby own_d18_21) e4 (⟨rfl, N4, rfl⟩) (by decide) (by decide)
def own_r19 : Room := { frames := 1, cells := 0, slots := 0, locals := 18 }
def own_Q19 (Z : State) (st sa : Addr) (ka : ClassId) (bf : Addr) (kb : ClassId) (cs : Int32) (h0 : Heap) (n0 : Nat) : Option Value → Heap → List Loc → Prop := fun v h L => v = none ∧ Fr n0 L ∧ Keep h0 h [bf] ∧ Arv Z h bf kb .byte (34 : Int32) [(.int 116), (.int 104), (.int 101), (.int 32), (.int 114), (.int 101), (.int 99), (.int 101), (.int 105), (.int 118), (.int 101), (.int 114), (.int 32), (.int 97), (.int 110), (.int 115), (.int 119), (.int 101), (.int 114), (.int 101), (.int 100), (.int 32), (.int 0), (.int 0), (.int 0), (.int 0), (.int 0), (.int 0), (.int 0), (.int 0), (.int 0), (.int 0), (.int 0), (.int 0)] (.int 0)
theorem own_rm19 (l : Launch) (Z : State) (a0 : Array Value) (hw : own_W a0 Z) (st sa : Addr) (ka : ClassId) (bf : Addr) (kb : ClassId) (cs : Int32) (h0 : Heap) (n0 : Nat) (Z0 : n0 ≤ h0.size) (O0 : Old Z n0 h0) (E_s : Exa Z h0 st "java/lang/String") (F_c : Fld Z h0 st "java/lang/String" "coder" "B" (.int 0)) (F_v : Fld Z h0 st "java/lang/String" "value" "[B" (.ref sa)) (V_a : Arv Z h0 sa ka .byte (22 : Int32) [(.int 116), (.int 104), (.int 101), (.int 32), (.int 114), (.int 101), (.int 99), (.int 101), (.int 105), (.int 118), (.int 101), (.int 114), (.int 32), (.int 97), (.int 110), (.int 115), (.int 119), (.int 101), (.int 114), (.int 101), (.int 100), (.int 32)] (.int 0)) (V_b : Arv Z h0 bf kb .byte (34 : Int32) [(.int 0), (.int 0), (.int 0), (.int 0), (.int 0), (.int 0), (.int 0), (.int 0), (.int 0), (.int 0), (.int 0), (.int 0), (.int 0), (.int 0), (.int 0), (.int 0), (.int 0), (.int 0), (.int 0), (.int 0), (.int 0), (.int 0), (.int 0), (.int 0), (.int 0), (.int 0), (.int 0), (.int 0), (.int 0), (.int 0), (.int 0), (.int 0), (.int 0), (.int 0)] (.int 0)) (g_b : n0 ≤ bf) (nab : sa ≠ bf) (ntb : st ≠ bf) (hcs : ¬ cs = (0 : Int32)) (S_cs : Sta Z Z.heap "java/lang/String" "COMPACT_STRINGS" "Z" (.int cs)) :
  own_MF l Z own_y14 (Jvm.Cond.code own_y14 jdk_42_method_147_code 4 none) [] own_r19 #[(.ref st), (.ref bf), (.int 0), (.int 0)] h0 (own_Q19 Z st sa ka bf kb cs h0 n0) := by
 refine own_open (plainFor_of_name own_pn3) hisR (Ls := #[vr st, vr bf, vi 0, vi 0]) ?_
 intro p e s m below meth c s₁ Bd hZ hx hby hml hown X0 e0
 have N0 := Fr.nil n0
 refine own_st (T' := s₁) (g' := (mkF m 1 #[vr st, vr bf, vi 0, vi 0] [(.ref st)])) (fun t k => ?_) ?_
 ·refine XS.aloadN X0.here hx rfl (hb hby own_d19_0) rfl rfl ?_
  exact k
 obtain ⟨cq1, kq1, q1a, q1b, q1c⟩ := isOf hZ e0 E_s
 obtain ⟨_, _, ⟨T1, L1, c1, n1⟩, -, X1, ⟨Lc1, hQ1, l1, y1, z1⟩, st1⟩ := X0.virtualBack hx (y := own_y6) (z := own_y6) hown (om hZ hw 60 rfl) (om hZ hw 61 rfl) (notFace_of_selects (args := #[]) (om hZ hw 63 rfl)) (om hZ hw 63 rfl) (om hZ hw 62 rfl) (by decide) (backOf (W := 0) (own_rm10 l Z a0 hw st cs h0 n0 Z0 O0 F_c hcs S_cs) hZ (own_w hw 64 rfl) (own_w hw 32 rfl) (by decide) (by decide)) q1a q1c (g := (mkF m 1 #[vr st, vr bf, vi 0, vi 0] [(.ref st)])) rfl (by rw [hml]; rfl) (Steps.refl _) (argsL := []) (rest := []) (lenOf own_pd1 rfl) rfl (by show 2 * 0 + _ ≤ _; exact Nat.le_of_eq rfl) (hb hby own_d19_1) (fun _ _ => ⟨rfl, e0, (by decide : 0 + 0 ≤ _), (by decide : 0 + 0 ≤ _)⟩)
 dsimp only [Pt.U, Pt.locs, Pt.cells, Pt.slots] at X1 l1 y1 z1 st1 hQ1
 subst l1 y1 z1
 obtain ⟨rfl, N1q, e1⟩ := hQ1
 have N1 := Fr.app N0 N1q
 refine own_tr (T' := T1) (g' := (mkF m 4 #[vr st, vr bf, vi 0, vi 0] [(.int 0)])) st1 ?_
 refine own_st (T' := T1) (g' := (mkF m 9 #[vr st, vr bf, vi 0, vi 0] [(.ref st)])) (fun t k => ?_) ?_
 ·refine XS.iloadN X1.here hx rfl (hb hby own_d19_4) rfl ?_
  refine XS.icmpNo X1.here hx rfl (hb hby own_d19_5) rfl (teq (rfl : (0 : Int32) = (0 : Int32))).2 ?_
  refine XS.aloadN X1.here hx rfl (hb hby own_d19_8) rfl rfl ?_
  exact k
 obtain ⟨T2, X2, e2, st2⟩ := getF X1 hx hZ hown (host := "") (Or.inl (own_w hw 59 rfl)) Via.refl e1 F_v (g := (mkF m 9 #[vr st, vr bf, vi 0, vi 0] [(.ref st)])) rfl rfl (hb hby own_d19_9)
 refine own_st (T' := T2) (g' := (mkF m 12 #[vr st, vr bf, vi 0, vi 0] [(.ref sa)])) st2 ?_
 refine own_st (T' := T2) (g' := (mkF m 18 #[vr st, vr bf, vi 0, vi 0] [(.ref st), (.int 0), (.ref bf), (.int 0), (.ref sa)])) (fun t k => ?_) ?_
 ·refine XS.iconst X2.here hx rfl (hb hby own_d19_12) ?_
  refine XS.aloadN X2.here hx rfl (hb hby own_d19_13) rfl rfl ?_
  refine XS.iloadN X2.here hx rfl (hb hby own_d19_14) rfl ?_
  refine XS.iloadN X2.here hx rfl (hb hby own_d19_15) rfl ?_
  refine XS.ishl X2.here hx rfl (hb hby own_d19_16) rfl ?_
  refine XS.aloadN X2.here hx rfl (hb hby own_d19_17) rfl rfl ?_
  exact k
 obtain ⟨T3, X3, e3, st3⟩ := getF X2 hx hZ hown (host := "") (Or.inl (own_w hw 59 rfl)) Via.refl e2 F_v (g := (mkF m 18 #[vr st, vr bf, vi 0, vi 0] [(.ref st), (.int 0), (.ref bf), (.int 0), (.ref sa)])) rfl rfl (hb hby own_d19_18)
 refine own_st (T' := T3) (g' := (mkF m 21 #[vr st, vr bf, vi 0, vi 0] [(.ref sa), (.int 0), (.ref bf), (.int 0), (.ref sa)])) st3 ?_
 obtain ⟨cl4, Ar4, q4, S4, M4, H4, G4⟩ := id V_a
 refine own_st (T' := T3) (g' := (mkF m 22 #[vr st, vr bf, vi 0, vi 0] [(.int 22), (.int 0), (.ref bf), (.int 0), (.ref sa)])) (fun t k => ?_) ?_
 ·refine X3.arraylength hx (by rw [e3]; exact Ar4.1) (State.isArrayOf_alike hZ.alike Ar4.2.1) (g := (mkF m 21 #[vr st, vr bf, vi 0, vi 0] [(.ref sa), (.int 0), (.ref bf), (.int 0), (.ref sa)])) rfl rfl (hb hby own_d19_21) _ ?_
  rw [len_of S4 M4]
  exact k
 obtain ⟨T5, h5, Lc5, X5, e5, N5, Kc5, Vc5, st5⟩ := cpA X3 hx hZ hown (own_w hw 116 rfl) (own_w hw 99 rfl) (own_w hw 97 rfl) (own_w hw 98 rfl) e3 V_a V_b (Or.inl ⟨rfl, rfl⟩) (by decide) (by decide) (by decide) (by decide) (by decide) (us := [(.int 116), (.int 104), (.int 101), (.int 32), (.int 114), (.int 101), (.int 99), (.int 101), (.int 105), (.int 118), (.int 101), (.int 114), (.int 32), (.int 97), (.int 110), (.int 115), (.int 119), (.int 101), (.int 114), (.int 101), (.int 100), (.int 32)]) rfl (by decide) N1 g_b (g := (mkF m 22 #[vr st, vr bf, vi 0, vi 0] [(.int 22), (.int 0), (.ref bf), (.int 0), (.ref sa)])) rfl (by rw [hml]; rfl) rfl (hb hby own_d19_22) (by decide) (W := 0) (by show 2 * 0 + _ ≤ _; exact Nat.le_of_eq rfl) (by decide)
 have K5 : Keep h0 h5 [bf] := (Keep.refl h0 [bf]).trans Kc5 (allS (Or.inl (List.mem_of_getElem? (i := 0) rfl)) all0)
 have Z5 : n0 ≤ h5.size := Nat.le_trans Z0 Kc5.1
 have O5 := O0.keep Kc5 (allS g_b all0)
 have Vd5 : Arv Z h5 bf kb .byte (34 : Int32) [(.int 116), (.int 104), (.int 101), (.int 32), (.int 114), (.int 101), (.int 99), (.int 101), (.int 105), (.int 118), (.int 101), (.int 114), (.int 32), (.int 97), (.int 110), (.int 115), (.int 119), (.int 101), (.int 114), (.int 101), (.int 100), (.int 32), (.int 0), (.int 0), (.int 0), (.int 0), (.int 0), (.int 0), (.int 0), (.int 0), (.int 0), (.int 0), (.int 0), (.int 0)] (.int 0) := Vc5
 refine own_st (T' := T5) (g' := (mkF m 25 #[vr st, vr bf, vi 0, vi 0] [])) st5 ?_
 refine own_st (T' := T5) (g' := (mkF m 43 #[vr st, vr bf, vi 0, vi 0] [])) (fun t k => ?_) ?_
 ·refine XS.goto X5.here hx rfl (pc0 := 25) (pc' := 43) rfl (hb hby own_d19_25) (by decide) (by decide) ?_
  exact k
 exact own_retV X5 hx Bd (hb hby own_d19_43) e5 (⟨rfl, N5, K5, Vd5⟩) (by decide) (by decide)
def own_r17 : Room := { frames := 2, cells := 0, slots := 0, locals := 33 }
def own_Q17 (Z : State) (sb bf : Addr) (kb : ClassId) (st sa : Addr) (ka : ClassId) (cs : Int32) (h0 : Heap) (n0 : Nat) : Option Value → Heap → List Loc → Prop := fun v h L => v = none ∧ Fr n0 L ∧ Keep h0 h [bf] ∧ Arv Z h bf kb .byte (34 : Int32) [(.int 116), (.int 104), (.int 101), (.int 32), (.int 114), (.int 101), (.int 99), (.int 101), (.int 105), (.int 118), (.int 101), (.int 114), (.int 32), (.int 97), (.int 110), (.int 115), (.int 119), (.int 101), (.int 114), (.int 101), (.int 100), (.int 32), (.int 0), (.int 0), (.int 0), (.int 0), (.int 0), (.int 0), (.int 0), (.int 0), (.int 0), (.int 0), (.int 0), (.int 0)] (.int 0)
theorem own_rm17 (l : Launch) (Z : State) (a0 : Array Value) (hw : own_W a0 Z) (sb bf : Addr) (kb : ClassId) (st sa : Addr) (ka : ClassId) (cs : Int32) (h0 : Heap) (n0 : Nat) (Z0 : n0 ≤ h0.size) (O0 : Old Z n0 h0) (E_b : Exa Z h0 sb "java/lang/StringBuilder") (B_v : Fld Z h0 sb "java/lang/AbstractStringBuilder" "value" "[B" (.ref bf)) (B_c : Fld Z h0 sb "java/lang/AbstractStringBuilder" "coder" "B" (.int 0)) (B_n : Fld Z h0 sb "java/lang/AbstractStringBuilder" "count" "I" (.int 0)) (V_b : Arv Z h0 bf kb .byte (34 : Int32) [(.int 0), (.int 0), (.int 0), (.int 0), (.int 0), (.int 0), (.int 0), (.int 0), (.int 0), (.int 0), (.int 0), (.int 0), (.int 0), (.int 0), (.int 0), (.int 0), (.int 0), (.int 0), (.int 0), (.int 0), (.int 0), (.int 0), (.int 0), (.int 0), (.int 0), (.int 0), (.int 0), (.int 0), (.int 0), (.int 0), (.int 0), (.int 0), (.int 0), (.int 0)] (.int 0)) (E_s : Exa Z h0 st "java/lang/String") (F_c : Fld Z h0 st "java/lang/String" "coder" "B" (.int 0)) (F_v : Fld Z h0 st "java/lang/String" "value" "[B" (.ref sa)) (V_a : Arv Z h0 sa ka .byte (22 : Int32) [(.int 116), (.int 104), (.int 101), (.int 32), (.int 114), (.int 101), (.int 99), (.int 101), (.int 105), (.int 118), (.int 101), (.int 114), (.int 32), (.int 97), (.int 110), (.int 115), (.int 119), (.int 101), (.int 114), (.int 101), (.int 100), (.int 32)] (.int 0)) (g_b : n0 ≤ bf) (nab : sa ≠ bf) (ntb : st ≠ bf) (nsb : sb ≠ bf) (hcs : ¬ cs = (0 : Int32)) (S_cs : Sta Z Z.heap "java/lang/String" "COMPACT_STRINGS" "Z" (.int cs)) :
  own_MF l Z own_y15 (Jvm.Cond.code own_y15 jdk_68_method_73_code 3 none) [] own_r17 #[(.ref sb), (.int 0), (.ref st)] h0 (own_Q17 Z sb bf kb st sa ka cs h0 n0) := by
 refine own_open (plainFor_of_name own_pn4) hisR (Ls := #[vr sb, vi 0, vr st]) ?_
 intro p e s m below meth c s₁ Bd hZ hx hby hml hown X0 e0
 have N0 := Fr.nil n0
 refine own_st (T' := s₁) (g' := (mkF m 2 #[vr sb, vi 0, vr st] [(.ref st), (.ref sb)])) (fun t k => ?_) ?_
 ·refine XS.aloadN X0.here hx rfl (hb hby own_d17_0) rfl rfl ?_
  refine XS.aloadN X0.here hx rfl (hb hby own_d17_1) rfl rfl ?_
  exact k
 obtain ⟨cq1, q1, q1'⟩ := E_b.cell
 obtain ⟨_, _, ⟨T1, L1, c1, n1⟩, -, X1, ⟨Lc1, hQ1, l1, y1, z1⟩, st1⟩ := X0.privateBack hx (y := own_y13) hown (om hZ hw 105 rfl) (om hZ hw 106 rfl) (own_selp (om hZ hw 108 rfl) (Cond.privateMethod_at (mvP hZ (own_w hw 107 rfl) (args := #[]))) (om hZ hw 106 rfl (args := #[])) (by decide)) (Cond.privateMethod_at (mvP hZ (own_w hw 107 rfl) (args := #[]))) (om hZ hw 109 rfl) (by decide) (backOf (W := 0) (own_rm18 l Z a0 hw sb bf st cs h0 n0 Z0 O0 E_b B_v B_c B_n E_s F_c hcs S_cs) hZ (own_w hw 109 rfl) (own_w hw 26 rfl) (by decide) (by decide)) (g := (mkF m 2 #[vr sb, vi 0, vr st] [(.ref st), (.ref sb)])) rfl (by rw [hml]; rfl) (Steps.refl _) (a := sb) (by rw [e0]; exact q1) q1' (argsL := [(.ref st)]) (rest := []) (lenOf own_pd6 rfl) rfl (by show 2 * 0 + _ ≤ _; exact Nat.le_of_eq rfl) (hb hby own_d17_2) (fun _ _ => ⟨rfl, e0, (by decide : 0 + 0 ≤ _), (by decide : 0 + 0 ≤ _)⟩)
 dsimp only [Pt.U, Pt.locs, Pt.cells, Pt.slots] at X1 l1 y1 z1 st1 hQ1
 subst l1 y1 z1
 obtain ⟨rfl, N1q, e1⟩ := hQ1
 have N1 := Fr.app N0 N1q
 refine own_tr (T' := T1) (g' := (mkF m 5 #[vr sb, vi 0, vr st] [])) st1 ?_
 refine own_st (T' := T1) (g' := (mkF m 7 #[vr sb, vi 0, vr st] [(.ref sb), (.ref st)])) (fun t k => ?_) ?_
 ·refine XS.aloadN X1.here hx rfl (hb hby own_d17_5) rfl rfl ?_
  refine XS.aloadN X1.here hx rfl (hb hby own_d17_6) rfl rfl ?_
  exact k
 obtain ⟨T2, X2, e2, st2⟩ := getF X1 hx hZ hown (host := "") (Or.inl (own_w hw 34 rfl)) Via.refl e1 B_v (g := (mkF m 7 #[vr sb, vi 0, vr st] [(.ref sb), (.ref st)])) rfl rfl (hb hby own_d17_7)
 refine own_st (T' := T2) (g' := (mkF m 10 #[vr sb, vi 0, vr st] [(.ref bf), (.ref st)])) st2 ?_
 refine own_st (T' := T2) (g' := (mkF m 12 #[vr sb, vi 0, vr st] [(.ref sb), (.int 0), (.ref bf), (.ref st)])) (fun t k => ?_) ?_
 ·refine XS.iloadN X2.here hx rfl (hb hby own_d17_10) rfl ?_
  refine XS.aloadN X2.here hx rfl (hb hby own_d17_11) rfl rfl ?_
  exact k
 obtain ⟨T3, X3, e3, st3⟩ := getF X2 hx hZ hown (host := "") (Or.inl (own_w hw 36 rfl)) Via.refl e2 B_c (g := (mkF m 12 #[vr sb, vi 0, vr st] [(.ref sb), (.int 0), (.ref bf), (.ref st)])) rfl rfl (hb hby own_d17_12)
 refine own_st (T' := T3) (g' := (mkF m 15 #[vr sb, vi 0, vr st] [(.int 0), (.int 0), (.ref bf), (.ref st)])) st3 ?_
 obtain ⟨cq4, kq4, q4a, q4b, q4c⟩ := isOf hZ e3 E_s
 obtain ⟨_, _, ⟨T4, L4, c4, n4⟩, -, X4, ⟨Lc4, hQ4, l4, y4, z4⟩, st4⟩ := X3.virtualBack hx (y := own_y14) (z := own_y14) hown (om hZ hw 111 rfl) (om hZ hw 112 rfl) (notFace_of_selects (args := #[]) (om hZ hw 114 rfl)) (om hZ hw 114 rfl) (om hZ hw 113 rfl) (by decide) (backOf (W := 0) (own_rm19 l Z a0 hw st sa ka bf kb cs h0 n0 Z0 O0 E_s F_c F_v V_a V_b g_b nab ntb hcs S_cs) hZ (own_w hw 115 rfl) (own_w hw 32 rfl) (by decide) (by decide)) q4a q4c (g := (mkF m 15 #[vr sb, vi 0, vr st] [(.int 0), (.int 0), (.ref bf), (.ref st)])) rfl (by rw [hml]; rfl) (Steps.refl _) (argsL := [(.ref bf), (.int 0), (.int 0)]) (rest := []) (lenOf own_pd7 rfl) rfl (by show 2 * 0 + _ ≤ _; exact Nat.le_of_eq rfl) (hb hby own_d17_15) (fun _ _ => ⟨rfl, e3, (by decide : 0 + 0 ≤ _), (by decide : 0 + 0 ≤ _)⟩)
 dsimp only [Pt.U, Pt.locs, Pt.cells, Pt.slots] at X4 l4 y4 z4 st4 hQ4
 subst l4 y4 z4
 obtain ⟨h4, e4⟩ : ∃ z, T4.heap = z := ⟨_, rfl⟩
 rw [e4] at hQ4
 obtain ⟨rfl, N4q, Kc4, Vc4⟩ := hQ4
 have N4 := Fr.app N1 N4q
 have K4 : Keep h0 h4 [bf] := (Keep.refl h0 [bf]).trans Kc4 (allS (Or.inl (List.mem_of_getElem? (i := 0) rfl)) all0)
 have Z4 : n0 ≤ h4.size := Nat.le_trans Z0 Kc4.1
 have O4 := O0.keep Kc4 (allS g_b all0)
 refine own_tr (T' := T4) (g' := (mkF m 18 #[vr sb, vi 0, vr st] [])) st4 ?_
 exact own_retV X4 hx Bd (hb hby own_d17_18) e4 (⟨rfl, N4, K4, Vc4⟩) (by decide) (by decide)
def own_r8 : Room := { frames := 4, cells := 1, slots := 34, locals := 62 }
def own_Q8 (Z : State) (sb bf : Addr) (kb : ClassId) (st sa : Addr) (ka : ClassId) (cs : Int32) (h0 : Heap) (n0 : Nat) : Option Value → Heap → List Loc → Prop := fun v h L => ∃ r k, v = some (.ref sb) ∧ Fr n0 L ∧ Keep h0 h [sb] ∧ n0 ≤ r ∧ h0.size ≤ r ∧ Fld Z h sb "java/lang/AbstractStringBuilder" "value" "[B" (.ref r) ∧ Fld Z h sb "java/lang/AbstractStringBuilder" "coder" "B" (.int 0) ∧ Fld Z h sb "java/lang/AbstractStringBuilder" "count" "I" (.int 22) ∧ Arv Z h r k .byte (34 : Int32) [(.int 116), (.int 104), (.int 101), (.int 32), (.int 114), (.int 101), (.int 99), (.int 101), (.int 105), (.int 118), (.int 101), (.int 114), (.int 32), (.int 97), (.int 110), (.int 115), (.int 119), (.int 101), (.int 114), (.int 101), (.int 100), (.int 32), (.int 0), (.int 0), (.int 0), (.int 0), (.int 0), (.int 0), (.int 0), (.int 0), (.int 0), (.int 0), (.int 0), (.int 0)] (.int 0)
theorem own_rm8 (l : Launch) (Z : State) (a0 : Array Value) (hw : own_W a0 Z) (sb bf : Addr) (kb : ClassId) (st sa : Addr) (ka : ClassId) (cs : Int32) (h0 : Heap) (n0 : Nat) (Z0 : n0 ≤ h0.size) (O0 : Old Z n0 h0) (E_b : Exa Z h0 sb "java/lang/StringBuilder") (B_v : Fld Z h0 sb "java/lang/AbstractStringBuilder" "value" "[B" (.ref bf)) (B_c : Fld Z h0 sb "java/lang/AbstractStringBuilder" "coder" "B" (.int 0)) (B_n : Fld Z h0 sb "java/lang/AbstractStringBuilder" "count" "I" (.int 0)) (V_b : Arv Z h0 bf kb .byte (16 : Int32) [(.int 0), (.int 0), (.int 0), (.int 0), (.int 0), (.int 0), (.int 0), (.int 0), (.int 0), (.int 0), (.int 0), (.int 0), (.int 0), (.int 0), (.int 0), (.int 0)] (.int 0)) (E_s : Exa Z h0 st "java/lang/String") (F_c : Fld Z h0 st "java/lang/String" "coder" "B" (.int 0)) (F_v : Fld Z h0 st "java/lang/String" "value" "[B" (.ref sa)) (V_a : Arv Z h0 sa ka .byte (22 : Int32) [(.int 116), (.int 104), (.int 101), (.int 32), (.int 114), (.int 101), (.int 99), (.int 101), (.int 105), (.int 118), (.int 101), (.int 114), (.int 32), (.int 97), (.int 110), (.int 115), (.int 119), (.int 101), (.int 114), (.int 101), (.int 100), (.int 32)] (.int 0)) (g_b : n0 ≤ sb) (nsb : sb ≠ bf) (nas : sa ≠ sb) (nts : st ≠ sb) (nab : sa ≠ bf) (ntb : st ≠ bf) (hcs : ¬ cs = (0 : Int32)) (S_cs : Sta Z Z.heap "java/lang/String" "COMPACT_STRINGS" "Z" (.int cs)) :
  own_MF l Z own_y16 (Jvm.Cond.code own_y16 jdk_68_method_22_code 3 (some (.object "java/lang/AbstractStringBuilder"))) [] own_r8 #[(.ref sb), (.ref st)] h0 (own_Q8 Z sb bf kb st sa ka cs h0 n0) := by
 refine own_open (plainFor_of_name own_pn4) hisR (Ls := #[vr sb, vr st, .unset]) ?_
 intro p e s m below meth c s₁ Bd hZ hx hby hml hown X0 e0
 have N0 := Fr.nil n0
 refine own_st (T' := s₁) (g' := (mkF m 10 #[vr sb, vr st, .unset] [(.ref st)])) (fun t k => ?_) ?_
 ·refine XS.aloadN X0.here hx rfl (hb hby own_d8_0) rfl rfl ?_
  refine XS.ifnonnullYes X0.here hx rfl (pc0 := 1) (pc' := 9) rfl (hb hby own_d8_1) rfl (by decide) (by decide) ?_
  refine XS.aloadN X0.here hx rfl (hb hby own_d8_9) rfl rfl ?_
  exact k
 obtain ⟨cq1, kq1, q1a, q1b, q1c⟩ := isOf hZ e0 E_s
 obtain ⟨_, _, ⟨T1, L1, c1, n1⟩, -, X1, ⟨Lc1, hQ1, l1, y1, z1⟩, st1⟩ := X0.virtualBack hx (y := own_y7) (z := own_y7) hown (om hZ hw 54 rfl) (om hZ hw 55 rfl) (notFace_of_selects (args := #[]) (om hZ hw 57 rfl)) (om hZ hw 57 rfl) (om hZ hw 56 rfl) (by decide) (backOf (W := 0) (own_rm9 l Z a0 hw st sa ka cs h0 n0 Z0 O0 E_s F_c F_v V_a hcs S_cs) hZ (own_w hw 58 rfl) (own_w hw 32 rfl) (by decide) (by decide)) q1a q1c (g := (mkF m 10 #[vr sb, vr st, .unset] [(.ref st)])) rfl (by rw [hml]; rfl) (Steps.refl _) (argsL := []) (rest := []) (lenOf own_pd8 rfl) rfl (by show 2 * 0 + _ ≤ _; exact Nat.le_of_eq rfl) (hb hby own_d8_10) (fun _ _ => ⟨rfl, e0, (by decide : 0 + 0 ≤ _), (by decide : 0 + 0 ≤ _)⟩)
 dsimp only [Pt.U, Pt.locs, Pt.cells, Pt.slots] at X1 l1 y1 z1 st1 hQ1
 subst l1 y1 z1
 obtain ⟨rfl, N1q, e1⟩ := hQ1
 have N1 := Fr.app N0 N1q
 refine own_tr (T' := T1) (g' := (mkF m 13 #[vr sb, vr st, .unset] [(.int 22)])) st1 ?_
 refine own_st (T' := T1) (g' := (mkF m 16 #[vr sb, vr st, vi 22] [(.ref sb), (.ref sb)])) (fun t k => ?_) ?_
 ·refine XS.istoreN X1.here hx rfl (hb hby own_d8_13) rfl (l' := #[vr sb, vr st, vi 22]) rfl ?_
  refine XS.aloadN X1.here hx rfl (hb hby own_d8_14) rfl rfl ?_
  refine XS.aloadN X1.here hx rfl (hb hby own_d8_15) rfl rfl ?_
  exact k
 obtain ⟨T2, X2, e2, st2⟩ := getF X1 hx hZ hown (host := "") (Or.inl (own_w hw 67 rfl)) Via.refl e1 B_n (g := (mkF m 16 #[vr sb, vr st, vi 22] [(.ref sb), (.ref sb)])) rfl rfl (hb hby own_d8_16)
 refine own_st (T' := T2) (g' := (mkF m 19 #[vr sb, vr st, vi 22] [(.int 0), (.ref sb)])) st2 ?_
 refine own_st (T' := T2) (g' := (mkF m 21 #[vr sb, vr st, vi 22] [(.int 22), (.ref sb)])) (fun t k => ?_) ?_
 ·refine XS.iloadN X2.here hx rfl (hb hby own_d8_19) rfl ?_
  refine XS.iadd X2.here hx rfl (hb hby own_d8_20) rfl ?_
  exact k
 obtain ⟨cq3, q3, q3'⟩ := E_b.cell
 obtain ⟨_, _, ⟨T3, L3, c3, n3⟩, -, X3, ⟨Lc3, hQ3, l3, y3, z3⟩, st3⟩ := X2.privateBack hx (y := own_y12) hown (om hZ hw 69 rfl) (om hZ hw 70 rfl) (own_selp (om hZ hw 72 rfl) (Cond.privateMethod_at (mvP hZ (own_w hw 71 rfl) (args := #[]))) (om hZ hw 70 rfl (args := #[])) (by decide)) (Cond.privateMethod_at (mvP hZ (own_w hw 71 rfl) (args := #[]))) (om hZ hw 73 rfl) (by decide) (backOf (W := 0) (own_rm11_a l Z a0 hw sb bf kb cs h0 n0 Z0 O0 E_b B_v B_c B_n V_b g_b nsb hcs S_cs) hZ (own_w hw 73 rfl) (own_w hw 26 rfl) (by decide) (by decide)) (g := (mkF m 21 #[vr sb, vr st, vi 22] [(.int 22), (.ref sb)])) rfl (by rw [hml]; rfl) (Steps.refl _) (a := sb) (by rw [e2]; exact q3) q3' (argsL := [(.int 22)]) (rest := []) (lenOf own_pd2 rfl) rfl (by show 2 * 0 + _ ≤ _; exact Nat.le_of_eq rfl) (hb hby own_d8_21) (fun _ _ => ⟨rfl, e2, (by decide : 0 + 1 ≤ _), (by decide : 0 + 34 ≤ _)⟩)
 dsimp only [Pt.U, Pt.locs, Pt.cells, Pt.slots] at X3 l3 y3 z3 st3 hQ3
 subst l3 y3 z3
 obtain ⟨h3, e3⟩ : ∃ z, T3.heap = z := ⟨_, rfl⟩
 rw [e3] at hQ3
 obtain ⟨r3, k3, rfl, N3q, Kc3, g3, hz3, Bv3, Bc3, Bn3, Vc3⟩ := hQ3
 have N3 := Fr.app N1 N3q
 have ne_sb_r3 : sb ≠ r3 := Nat.ne_of_lt (Nat.lt_of_lt_of_le E_b.lt hz3)
 have ne_bf_r3 : bf ≠ r3 := Nat.ne_of_lt (Nat.lt_of_lt_of_le V_b.lt hz3)
 have ne_st_r3 : st ≠ r3 := Nat.ne_of_lt (Nat.lt_of_lt_of_le E_s.lt hz3)
 have ne_sa_r3 : sa ≠ r3 := Nat.ne_of_lt (Nat.lt_of_lt_of_le V_a.lt hz3)
 have hwr3 : h0.size ≤ r3 := Nat.le_trans (Keep.refl h0 [sb]).1 hz3
 have K3 : Keep h0 h3 [sb] := (Keep.refl h0 [sb]).trans Kc3 (allS (Or.inl (List.mem_of_getElem? (i := 0) rfl)) all0)
 have Z3 : n0 ≤ h3.size := Nat.le_trans Z0 Kc3.1
 have O3 := O0.keep Kc3 (allS g_b all0)
 refine own_tr (T' := T3) (g' := (mkF m 24 #[vr sb, vr st, vi 22] [])) st3 ?_
 refine own_st (T' := T3) (g' := (mkF m 26 #[vr sb, vr st, vi 22] [(.ref sb), (.ref sb)])) (fun t k => ?_) ?_
 ·refine XS.aloadN X3.here hx rfl (hb hby own_d8_24) rfl rfl ?_
  refine XS.aloadN X3.here hx rfl (hb hby own_d8_25) rfl rfl ?_
  exact k
 obtain ⟨T4, X4, e4, st4⟩ := getF X3 hx hZ hown (host := "") (Or.inl (own_w hw 67 rfl)) Via.refl e3 Bn3 (g := (mkF m 26 #[vr sb, vr st, vi 22] [(.ref sb), (.ref sb)])) rfl rfl (hb hby own_d8_26)
 refine own_st (T' := T4) (g' := (mkF m 29 #[vr sb, vr st, vi 22] [(.int 0), (.ref sb)])) st4 ?_
 refine own_st (T' := T4) (g' := (mkF m 30 #[vr sb, vr st, vi 22] [(.ref st), (.int 0), (.ref sb)])) (fun t k => ?_) ?_
 ·refine XS.aloadN X4.here hx rfl (hb hby own_d8_29) rfl rfl ?_
  exact k
 have f5 := E_b.keep Kc3
 have f6 := E_s.keep Kc3
 have f7 := F_c.keep Kc3 (ninS nts nin0)
 have f8 := F_v.keep Kc3 (ninS nts nin0)
 have f9 := V_a.keep Kc3 (ninS nas nin0)
 obtain ⟨cq10, q10, q10'⟩ := f5.cell
 obtain ⟨_, _, ⟨T10, L10, c10, n10⟩, -, X10, ⟨Lc10, hQ10, l10, y10, z10⟩, st10⟩ := X4.privateBack hx (y := own_y15) hown (om hZ hw 100 rfl) (om hZ hw 101 rfl) (own_selp (om hZ hw 103 rfl) (Cond.privateMethod_at (mvP hZ (own_w hw 102 rfl) (args := #[]))) (om hZ hw 101 rfl (args := #[])) (by decide)) (Cond.privateMethod_at (mvP hZ (own_w hw 102 rfl) (args := #[]))) (om hZ hw 104 rfl) (by decide) (backOf (W := 0) (own_rm17 l Z a0 hw sb r3 k3 st sa ka cs h3 n0 Z3 O3 f5 Bv3 Bc3 Bn3 Vc3 f6 f7 f8 f9 g3 ne_sa_r3 ne_st_r3 ne_sb_r3 hcs S_cs) hZ (own_w hw 104 rfl) (own_w hw 26 rfl) (by decide) (by decide)) (g := (mkF m 30 #[vr sb, vr st, vi 22] [(.ref st), (.int 0), (.ref sb)])) rfl (by rw [hml]; rfl) (Steps.refl _) (a := sb) (by rw [e4]; exact q10) q10' (argsL := [(.int 0), (.ref st)]) (rest := []) (lenOf own_pd9 rfl) rfl (by show 2 * 0 + _ ≤ _; exact Nat.le_of_eq rfl) (hb hby own_d8_30) (fun _ _ => ⟨rfl, e4, (by decide : 1 + 0 ≤ _), (by decide : 34 + 0 ≤ _)⟩)
 dsimp only [Pt.U, Pt.locs, Pt.cells, Pt.slots] at X10 l10 y10 z10 st10 hQ10
 subst l10 y10 z10
 obtain ⟨h10, e10⟩ : ∃ z, T10.heap = z := ⟨_, rfl⟩
 rw [e10] at hQ10
 obtain ⟨rfl, N10q, Kc10, Vc10⟩ := hQ10
 have N10 := Fr.app N3 N10q
 have K10 : Keep h0 h10 [sb] := K3.trans Kc10 (allS (Or.inr hwr3) all0)
 have Z10 : n0 ≤ h10.size := Nat.le_trans Z3 Kc10.1
 have O10 := O3.keep Kc10 (allS g3 all0)
 refine own_tr (T' := T10) (g' := (mkF m 33 #[vr sb, vr st, vi 22] [])) st10 ?_
 refine own_st (T' := T10) (g' := (mkF m 35 #[vr sb, vr st, vi 22] [(.ref sb), (.ref sb)])) (fun t k => ?_) ?_
 ·refine XS.aloadN X10.here hx rfl (hb hby own_d8_33) rfl rfl ?_
  refine XS.dup X10.here hx rfl (hb hby own_d8_34) rfl rfl ?_
  exact k
 have f11 := Bn3.keep Kc10 (ninS ne_sb_r3 nin0)
 obtain ⟨T12, X12, e12, st12⟩ := getF X10 hx hZ hown (host := "") (Or.inl (own_w hw 67 rfl)) Via.refl e10 f11 (g := (mkF m 35 #[vr sb, vr st, vi 22] [(.ref sb), (.ref sb)])) rfl rfl (hb hby own_d8_35)
 refine own_st (T' := T12) (g' := (mkF m 38 #[vr sb, vr st, vi 22] [(.int 0), (.ref sb)])) st12 ?_
 refine own_st (T' := T12) (g' := (mkF m 40 #[vr sb, vr st, vi 22] [(.int 22), (.ref sb)])) (fun t k => ?_) ?_
 ·refine XS.iloadN X12.here hx rfl (hb hby own_d8_38) rfl ?_
  refine XS.iadd X12.here hx rfl (hb hby own_d8_39) rfl ?_
  exact k
 have f13 := f5.keep Kc10
 obtain ⟨T14, h14, X14, e14, W14, st14⟩ := putF X12 hx hZ hown (host := "") (Or.inl (own_w hw 67 rfl)) Via.refl e12 f11 f13 (Or.inl (own_w hw 68 rfl)) (own_w hw 17 rfl) (ty := .int) (by decide) rfl rfl (g := (mkF m 40 #[vr sb, vr st, vi 22] [(.int 22), (.ref sb)])) rfl rfl (hb hby own_d8_40)
 have N14 := Fr.snoc X14 N10 g_b
 have K14 : Keep h0 h14 [sb] := K10.wr W14 (Or.inl (List.mem_of_getElem? (i := 0) rfl))
 have Z14 : n0 ≤ h14.size := Nat.le_trans Z10 (Keep.of_wr W14).1
 have O14 := O10.wr W14 g_b
 have fw14 := (f11.same W14)
 refine own_st (T' := T14) (g' := (mkF m 43 #[vr sb, vr st, vi 22] [])) st14 ?_
 have f15 := (Bv3.keep Kc10 (ninS ne_sb_r3 nin0)).other W14 (Or.inr (slot_ne (Or.inl (own_w hw 35 rfl)) (Or.inl (own_w hw 68 rfl)) (by decide) (t := (.array .byte)) (t' := .int) (by decide) (by decide)))
 have f16 := (Bc3.keep Kc10 (ninS ne_sb_r3 nin0)).other W14 (Or.inr (slot_ne (Or.inl (own_w hw 37 rfl)) (Or.inl (own_w hw 68 rfl)) (by decide) (t := .byte) (t' := .int) (by decide) (by decide)))
 have f17 := Vc10.other W14 (Ne.symm ne_sb_r3)
 refine own_st (T' := T14) (g' := (mkF m 44 #[vr sb, vr st, vi 22] [(.ref sb)])) (fun t k => ?_) ?_
 ·refine XS.aloadN X14.here hx rfl (hb hby own_d8_43) rfl rfl ?_
  exact k
 exact own_retA X14 hx Bd rfl rfl (hb hby own_d8_44) e14 (⟨r3, k3, rfl, N14, K14, g3, hwr3, f15, f16, fw14, f17⟩) (by decide) (by decide)
def own_r7 : Room := { frames := 5, cells := 1, slots := 34, locals := 76 }
def own_Q7 (Z : State) (sb bf : Addr) (kb : ClassId) (st sa : Addr) (ka : ClassId) (cs : Int32) (h0 : Heap) (n0 : Nat) : Option Value → Heap → List Loc → Prop := fun v h L => ∃ r k, v = some (.ref sb) ∧ Fr n0 L ∧ Keep h0 h [sb] ∧ n0 ≤ r ∧ h0.size ≤ r ∧ Fld Z h sb "java/lang/AbstractStringBuilder" "value" "[B" (.ref r) ∧ Fld Z h sb "java/lang/AbstractStringBuilder" "coder" "B" (.int 0) ∧ Fld Z h sb "java/lang/AbstractStringBuilder" "count" "I" (.int 22) ∧ Arv Z h r k .byte (34 : Int32) [(.int 116), (.int 104), (.int 101), (.int 32), (.int 114), (.int 101), (.int 99), (.int 101), (.int 105), (.int 118), (.int 101), (.int 114), (.int 32), (.int 97), (.int 110), (.int 115), (.int 119), (.int 101), (.int 114), (.int 101), (.int 100), (.int 32), (.int 0), (.int 0), (.int 0), (.int 0), (.int 0), (.int 0), (.int 0), (.int 0), (.int 0), (.int 0), (.int 0), (.int 0)] (.int 0)
theorem own_rm7 (l : Launch) (Z : State) (a0 : Array Value) (hw : own_W a0 Z) (sb bf : Addr) (kb : ClassId) (st sa : Addr) (ka : ClassId) (cs : Int32) (h0 : Heap) (n0 : Nat) (Z0 : n0 ≤ h0.size) (O0 : Old Z n0 h0) (E_b : Exa Z h0 sb "java/lang/StringBuilder") (B_v : Fld Z h0 sb "java/lang/AbstractStringBuilder" "value" "[B" (.ref bf)) (B_c : Fld Z h0 sb "java/lang/AbstractStringBuilder" "coder" "B" (.int 0)) (B_n : Fld Z h0 sb "java/lang/AbstractStringBuilder" "count" "I" (.int 0)) (V_b : Arv Z h0 bf kb .byte (16 : Int32) [(.int 0), (.int 0), (.int 0), (.int 0), (.int 0), (.int 0), (.int 0), (.int 0), (.int 0), (.int 0), (.int 0), (.int 0), (.int 0), (.int 0), (.int 0), (.int 0)] (.int 0)) (E_s : Exa Z h0 st "java/lang/String") (F_c : Fld Z h0 st "java/lang/String" "coder" "B" (.int 0)) (F_v : Fld Z h0 st "java/lang/String" "value" "[B" (.ref sa)) (V_a : Arv Z h0 sa ka .byte (22 : Int32) [(.int 116), (.int 104), (.int 101), (.int 32), (.int 114), (.int 101), (.int 99), (.int 101), (.int 105), (.int 118), (.int 101), (.int 114), (.int 32), (.int 97), (.int 110), (.int 115), (.int 119), (.int 101), (.int 114), (.int 101), (.int 100), (.int 32)] (.int 0)) (g_b : n0 ≤ sb) (nsb : sb ≠ bf) (nas : sa ≠ sb) (nts : st ≠ sb) (nab : sa ≠ bf) (ntb : st ≠ bf) (hcs : ¬ cs = (0 : Int32)) (S_cs : Sta Z Z.heap "java/lang/String" "COMPACT_STRINGS" "Z" (.int cs)) :
  own_MF l Z own_y17 (Jvm.Cond.code own_y17 jdk_67_method_7_code 2 (some (.object "java/lang/StringBuilder"))) [] own_r7 #[(.ref sb), (.ref st)] h0 (own_Q7 Z sb bf kb st sa ka cs h0 n0) := by
 refine own_open (plainFor_of_name own_pn5) hisR (Ls := #[vr sb, vr st]) ?_
 intro p e s m below meth c s₁ Bd hZ hx hby hml hown X0 e0
 have N0 := Fr.nil n0
 refine own_st (T' := s₁) (g' := (mkF m 2 #[vr sb, vr st] [(.ref st), (.ref sb)])) (fun t k => ?_) ?_
 ·refine XS.aloadN X0.here hx rfl (hb hby own_d7_0) rfl rfl ?_
  refine XS.aloadN X0.here hx rfl (hb hby own_d7_1) rfl rfl ?_
  exact k
 obtain ⟨_, _, ⟨T1, L1, c1, n1⟩, -, X1, ⟨Lc1, hQ1, l1, y1, z1⟩, st1⟩ := superBack X0 hx hZ (y := own_y16) hown (own_w hw 49 rfl) (own_same (own_w hw 72 rfl) (own_w hw 50 rfl) rfl (by decide)) (own_w hw 50 rfl) (own_w hw 51 rfl) (by decide) (backOf (W := 0) (own_rm8 l Z a0 hw sb bf kb st sa ka cs h0 n0 Z0 O0 E_b B_v B_c B_n V_b E_s F_c F_v V_a g_b nsb nas nts nab ntb hcs S_cs) hZ (own_w hw 53 rfl) (own_w hw 26 rfl) (by decide) (by decide)) e0 (Ins.self E_b) (g := (mkF m 2 #[vr sb, vr st] [(.ref st), (.ref sb)])) rfl (by rw [hml]; rfl) (own_w hw 53 rfl) (argsL := [(.ref st)]) (rest := []) (lenOf own_pd10 rfl) rfl (by show 2 * 0 + _ ≤ _; exact Nat.le_of_eq rfl) (hb hby own_d7_2) (fun _ _ => ⟨rfl, e0, (by decide : 0 + 1 ≤ _), (by decide : 0 + 34 ≤ _)⟩)
 dsimp only [Pt.U, Pt.locs, Pt.cells, Pt.slots] at X1 l1 y1 z1 st1 hQ1
 subst l1 y1 z1
 obtain ⟨h1, e1⟩ : ∃ z, T1.heap = z := ⟨_, rfl⟩
 rw [e1] at hQ1
 obtain ⟨r1, k1, rfl, N1q, Kc1, g1, hz1, Bv1, Bc1, Bn1, Vc1⟩ := hQ1
 have N1 := Fr.app N0 N1q
 have ne_sb_r1 : sb ≠ r1 := Nat.ne_of_lt (Nat.lt_of_lt_of_le E_b.lt hz1)
 have ne_bf_r1 : bf ≠ r1 := Nat.ne_of_lt (Nat.lt_of_lt_of_le V_b.lt hz1)
 have ne_st_r1 : st ≠ r1 := Nat.ne_of_lt (Nat.lt_of_lt_of_le E_s.lt hz1)
 have ne_sa_r1 : sa ≠ r1 := Nat.ne_of_lt (Nat.lt_of_lt_of_le V_a.lt hz1)
 have hwr1 : h0.size ≤ r1 := Nat.le_trans (Keep.refl h0 [sb]).1 hz1
 have K1 : Keep h0 h1 [sb] := (Keep.refl h0 [sb]).trans Kc1 (allS (Or.inl (List.mem_of_getElem? (i := 0) rfl)) all0)
 have Z1 : n0 ≤ h1.size := Nat.le_trans Z0 Kc1.1
 have O1 := O0.keep Kc1 (allS g_b all0)
 refine own_tr (T' := T1) (g' := (mkF m 5 #[vr sb, vr st] [(.ref sb)])) st1 ?_
 refine own_st (T' := T1) (g' := (mkF m 7 #[vr sb, vr st] [(.ref sb)])) (fun t k => ?_) ?_
 ·refine XS.pop X1.here hx rfl (hb hby own_d7_5) rfl rfl ?_
  refine XS.aloadN X1.here hx rfl (hb hby own_d7_6) rfl rfl ?_
  exact k
 exact own_retA X1 hx Bd rfl rfl (hb hby own_d7_7) e1 (⟨r1, k1, rfl, N1, K1, g1, hwr1, Bv1, Bc1, Bn1, Vc1⟩) (by decide) (by decide)
def own_r23 : Room := { frames := 0, cells := 0, slots := 0, locals := 0 }
theorem own_rm23 (l : Launch) (Z : State) (a0 : Array Value) (hw : own_W a0 Z) (sb : Addr) (cs : Int32) (h0 : Heap) (n0 : Nat) (Z0 : n0 ≤ h0.size) (O0 : Old Z n0 h0) (B_c : Fld Z h0 sb "java/lang/AbstractStringBuilder" "coder" "B" (.int 0)) (hcs : ¬ cs = (0 : Int32)) (S_cs : Sta Z Z.heap "java/lang/String" "COMPACT_STRINGS" "Z" (.int cs)) :
  own_MF l Z own_y18 (Jvm.Cond.code own_y18 jdk_68_method_68_code 1 (some .boolean)) [] own_r23 #[(.ref sb)] h0 (own_P h0 n0 (.int 1)) := by
 refine own_open (plainFor_of_name own_pn4) hisR (Ls := #[vr sb]) ?_
 intro p e s m below meth c s₁ Bd hZ hx hby hml hown X0 e0
 have N0 := Fr.nil n0
 have f1 := S_cs.ext O0.2
 obtain ⟨T2, X2, e2, st2⟩ := getS2 X0 hx hZ hown (host := "") (Or.inl (own_w hw 31 rfl)) Via.refl e0 f1 (g := (mkF m 0 #[vr sb] [])) rfl (hb hby own_d23_0)
 refine own_st (T' := T2) (g' := (mkF m 3 #[vr sb] [(.int cs)])) st2 ?_
 refine own_st (T' := T2) (g' := (mkF m 7 #[vr sb] [(.ref sb)])) (fun t k => ?_) ?_
 ·refine XS.ifNo X2.here hx rfl (hb hby own_d23_3) rfl ((if0 _ _).trans (feq hcs).1) ?_
  refine XS.aloadN X2.here hx rfl (hb hby own_d23_6) rfl rfl ?_
  exact k
 obtain ⟨T3, X3, e3, st3⟩ := getF X2 hx hZ hown (host := "") (Or.inl (own_w hw 36 rfl)) Via.refl e2 B_c (g := (mkF m 7 #[vr sb] [(.ref sb)])) rfl rfl (hb hby own_d23_7)
 refine own_st (T' := T3) (g' := (mkF m 10 #[vr sb] [(.int 0)])) st3 ?_
 refine own_st (T' := T3) (g' := (mkF m 18 #[vr sb] [(.int 1)])) (fun t k => ?_) ?_
 ·refine XS.ifNo X3.here hx rfl (hb hby own_d23_10) rfl ((if0 _ _).trans (teq (rfl : (0 : Int32) = (0 : Int32))).2) ?_
  refine XS.iconst X3.here hx rfl (hb hby own_d23_13) ?_
  refine XS.goto X3.here hx rfl (pc0 := 14) (pc' := 18) rfl (hb hby own_d23_14) (by decide) (by decide) ?_
  exact k
 exact own_retN X3 hx Bd (t := .boolean) (by simp) rfl (hb hby own_d23_18) e3 (⟨rfl, N0, rfl⟩) (by decide) (by decide)
def own_r28 : Room := { frames := 0, cells := 0, slots := 0, locals := 0 }
theorem own_rm28 (l : Launch) (Z : State) (a0 : Array Value) (hw : own_W a0 Z) (b : Addr) (yv : Value) (h0 : Heap) (n0 : Nat) (Z0 : n0 ≤ h0.size) (hyv : yv.isRef = true) (F_b : Fld Z h0 b "java/lang/AbstractStringBuilder" "value" "[B" yv) :
  own_MF l Z own_y19 (Jvm.Cond.code own_y19 jdk_68_method_64_code 1 (some (.array .byte))) [] own_r28 #[(.ref b)] h0 (own_P h0 n0 yv) := by
 refine own_open (plainFor_of_name own_pn4) hisR (Ls := #[vr b]) ?_
 intro p e s m below meth c s₁ Bd hZ hx hby hml hown X0 e0
 have N0 := Fr.nil n0
 refine own_st (T' := s₁) (g' := (mkF m 1 #[vr b] [(.ref b)])) (fun t k => ?_) ?_
 ·refine XS.aloadN X0.here hx rfl (hb hby own_d28_0) rfl rfl ?_
  exact k
 obtain ⟨T1, X1, e1, st1⟩ := getF X0 hx hZ hown (host := "") (Or.inl (own_w hw 34 rfl)) Via.refl e0 F_b (g := (mkF m 1 #[vr b] [(.ref b)])) rfl rfl (hb hby own_d28_1)
 refine own_st (T' := T1) (g' := (mkF m 4 #[vr b] [yv])) st1 ?_
 exact own_retA X1 hx Bd rfl hyv (hb hby own_d28_4) e1 (⟨rfl, N0, rfl⟩) (by decide) (by decide)
def own_r30 : Room := { frames := 0, cells := 0, slots := 0, locals := 0 }
theorem own_rm30 (l : Launch) (Z : State) (a0 : Array Value) (hw : own_W a0 Z) (b : Addr) (yv : Int32) (h0 : Heap) (n0 : Nat) (Z0 : n0 ≤ h0.size) (F_b : Fld Z h0 b "java/lang/AbstractStringBuilder" "count" "I" (.int yv)) :
  own_MF l Z own_y20 (Jvm.Cond.code own_y20 jdk_68_method_6_code 1 (some .int)) [] own_r30 #[(.ref b)] h0 (own_P h0 n0 (.int yv)) := by
 refine own_open (plainFor_of_name own_pn4) hisR (Ls := #[vr b]) ?_
 intro p e s m below meth c s₁ Bd hZ hx hby hml hown X0 e0
 have N0 := Fr.nil n0
 refine own_st (T' := s₁) (g' := (mkF m 1 #[vr b] [(.ref b)])) (fun t k => ?_) ?_
 ·refine XS.aloadN X0.here hx rfl (hb hby own_d30_0) rfl rfl ?_
  exact k
 obtain ⟨T1, X1, e1, st1⟩ := getF X0 hx hZ hown (host := "") (Or.inl (own_w hw 67 rfl)) Via.refl e0 F_b (g := (mkF m 1 #[vr b] [(.ref b)])) rfl rfl (hb hby own_d30_1)
 refine own_st (T' := T1) (g' := (mkF m 4 #[vr b] [(.int yv)])) st1 ?_
 exact own_retI X1 hx Bd (hb hby own_d30_4) e1 (⟨rfl, N0, rfl⟩) (by decide) (by decide)
def own_r29 : Room := { frames := 1, cells := 0, slots := 0, locals := 12 }
theorem own_rm29 (l : Launch) (Z : State) (a0 : Array Value) (hw : own_W a0 Z) (sb : Addr) (cn : Int32) (h0 : Heap) (n0 : Nat) (Z0 : n0 ≤ h0.size) (E_b : Exa Z h0 sb "java/lang/StringBuilder") (B_n : Fld Z h0 sb "java/lang/AbstractStringBuilder" "count" "I" (.int cn)) :
  own_MF l Z own_y21 (Jvm.Cond.code own_y21 jdk_67_method_93_code 1 (some .int)) [] own_r29 #[(.ref sb)] h0 (own_P h0 n0 (.int cn)) := by
 refine own_open (plainFor_of_name own_pn5) hisR (Ls := #[vr sb]) ?_
 intro p e s m below meth c s₁ Bd hZ hx hby hml hown X0 e0
 have N0 := Fr.nil n0
 refine own_st (T' := s₁) (g' := (mkF m 1 #[vr sb] [(.ref sb)])) (fun t k => ?_) ?_
 ·refine XS.aloadN X0.here hx rfl (hb hby own_d29_0) rfl rfl ?_
  exact k
 obtain ⟨_, _, ⟨T1, L1, c1, n1⟩, -, X1, ⟨Lc1, hQ1, l1, y1, z1⟩, st1⟩ := superBack X0 hx hZ (y := own_y20) hown (own_w hw 163 rfl) (own_same (own_w hw 72 rfl) (own_w hw 159 rfl) rfl (by decide)) (own_w hw 159 rfl) (own_w hw 51 rfl) (by decide) (backOf (W := 0) (own_rm30 l Z a0 hw sb cn h0 n0 Z0 B_n) hZ (own_w hw 164 rfl) (own_w hw 26 rfl) (by decide) (by decide)) e0 (Ins.self E_b) (g := (mkF m 1 #[vr sb] [(.ref sb)])) rfl (by rw [hml]; rfl) (own_w hw 164 rfl) (argsL := []) (rest := []) (lenOf own_pd8 rfl) rfl (by show 2 * 0 + _ ≤ _; exact Nat.le_of_eq rfl) (hb hby own_d29_1) (fun _ _ => ⟨rfl, e0, (by decide : 0 + 0 ≤ _), (by decide : 0 + 0 ≤ _)⟩)
 dsimp only [Pt.U, Pt.locs, Pt.cells, Pt.slots] at X1 l1 y1 z1 st1 hQ1
 subst l1 y1 z1
 obtain ⟨rfl, N1q, e1⟩ := hQ1
 have N1 := Fr.app N0 N1q
 refine own_tr (T' := T1) (g' := (mkF m 4 #[vr sb] [(.int cn)])) st1 ?_
 exact own_retI X1 hx Bd (hb hby own_d29_4) e1 (⟨rfl, N1, rfl⟩) (by decide) (by decide)
def own_r21 : Room := { frames := 1, cells := 0, slots := 0, locals := 18 }
def own_Q21 (Z : State) (sb bf : Addr) (kb : ClassId) (sv : Int32) (d1 d2 : Addr) (kd1 kd2 : ClassId) (cs : Int32) (h0 : Heap) (n0 : Nat) : Option Value → Heap → List Loc → Prop := fun v h L => v = some (.ref sb) ∧ Fr n0 L ∧ Keep h0 h [sb, bf] ∧ Fld Z h sb "java/lang/AbstractStringBuilder" "value" "[B" (.ref bf) ∧ Fld Z h sb "java/lang/AbstractStringBuilder" "coder" "B" (.int 0) ∧ Fld Z h sb "java/lang/AbstractStringBuilder" "count" "I" (.int (own_L sv)) ∧ Arv Z h bf kb .byte (34 : Int32) ((own_fin sv (own_tl sv) own_lit34).map Value.int) (.int 0)
theorem own_rm21 (l : Launch) (Z : State) (a0 : Array Value) (hw : own_W a0 Z) (sb bf : Addr) (kb : ClassId) (sv : Int32) (d1 d2 : Addr) (kd1 kd2 : ClassId) (cs : Int32) (h0 : Heap) (n0 : Nat) (Z0 : n0 ≤ h0.size) (O0 : Old Z n0 h0) (E_b : Exa Z h0 sb "java/lang/StringBuilder") (B_v : Fld Z h0 sb "java/lang/AbstractStringBuilder" "value" "[B" (.ref bf)) (B_c : Fld Z h0 sb "java/lang/AbstractStringBuilder" "coder" "B" (.int 0)) (B_n : Fld Z h0 sb "java/lang/AbstractStringBuilder" "count" "I" (.int 22)) (V_b : Arv Z h0 bf kb .byte (34 : Int32) (own_lit34.map Value.int) (.int 0)) (g_b : n0 ≤ sb) (g_f : n0 ≤ bf) (nsb : sb ≠ bf) (S_o : Sta Z Z.heap "java/lang/Integer" "DigitOnes" "[B" (.ref d1)) (S_t : Sta Z Z.heap "java/lang/Integer" "DigitTens" "[B" (.ref d2)) (V_o : Arv Z Z.heap d1 kd1 .byte (100 : Int32) (own_tab1.map Value.int) (.int 0)) (V_t : Arv Z Z.heap d2 kd2 .byte (100 : Int32) (own_tab2.map Value.int) (.int 0)) (hcs : ¬ cs = (0 : Int32)) (S_cs : Sta Z Z.heap "java/lang/String" "COMPACT_STRINGS" "Z" (.int cs)) :
  own_MF l Z own_y22 (Jvm.Cond.code own_y22 jdk_68_method_32_code 4 (some (.object "java/lang/AbstractStringBuilder"))) [] own_r21 #[(.ref sb), (.int sv)] h0 (own_Q21 Z sb bf kb sv d1 d2 kd1 kd2 cs h0 n0) := by
 refine own_open (plainFor_of_name own_pn4) hisR (Ls := #[vr sb, vi sv, .unset, .unset]) ?_
 intro p e s m below meth c s₁ Bd hZ hx hby hml hown X0 e0
 have N0 := Fr.nil n0
 refine own_st (T' := s₁) (g' := (mkF m 1 #[vr sb, vi sv, .unset, .unset] [(.ref sb)])) (fun t k => ?_) ?_
 ·refine XS.aloadN X0.here hx rfl (hb hby own_d21_0) rfl rfl ?_
  exact k
 obtain ⟨T1, X1, e1, st1⟩ := getF X0 hx hZ hown (host := "") (Or.inl (own_w hw 67 rfl)) Via.refl e0 B_n (g := (mkF m 1 #[vr sb, vi sv, .unset, .unset] [(.ref sb)])) rfl rfl (hb hby own_d21_1)
 refine own_st (T' := T1) (g' := (mkF m 4 #[vr sb, vi sv, .unset, .unset] [(.int 22)])) st1 ?_
 refine own_st (T' := T1) (g' := (mkF m 7 #[vr sb, vi sv, vi 22, .unset] [(.int sv), (.int 22)])) (fun t k => ?_) ?_
 ·refine XS.istoreN X1.here hx rfl (hb hby own_d21_4) rfl (l' := #[vr sb, vi sv, vi 22, .unset]) rfl ?_
  refine XS.iloadN X1.here hx rfl (hb hby own_d21_5) rfl ?_
  refine XS.iloadN X1.here hx rfl (hb hby own_d21_6) rfl ?_
  exact k
 obtain ⟨_, _, ⟨T2, L2, c2, n2⟩, -, X2, ⟨Lc2, hQ2, l2, y2, z2⟩, st2⟩ := Jvm.LawKit.callS X1 hx (y := own_y1) hown (om hZ hw 126 rfl) (om hZ hw 127 rfl) (om hZ hw 8 rfl) (om hZ hw 128 rfl) (by decide) (backOf (W := 1) (own_rm22 l Z a0 hw sv h0 n0 Z0) hZ (own_w hw 128 rfl) (own_w hw 8 rfl) (by decide) (by decide)) (g := (mkF m 7 #[vr sb, vi sv, vi 22, .unset] [(.int sv), (.int 22)])) rfl (by rw [hml]; rfl) (argsL := [(.int sv)]) (rest := [(.int 22)]) (lenOf own_pd4 rfl) rfl (by show 2 * 0 + _ ≤ _; exact Nat.le_of_eq rfl) (hb hby own_d21_7) (fun _ _ => ⟨rfl, e1, (by decide : 0 + 0 ≤ _), (by decide : 0 + 0 ≤ _)⟩)
 dsimp only [Pt.U, Pt.locs, Pt.cells, Pt.slots] at X2 l2 y2 z2 st2 hQ2
 subst l2 y2 z2
 obtain ⟨rfl, N2q, e2⟩ := hQ2
 have N2 := Fr.app N0 N2q
 refine own_st (T' := T2) (g' := (mkF m 10 #[vr sb, vi sv, vi 22, .unset] [(.int (own_sz sv)), (.int 22)])) st2 ?_
 refine own_st (T' := T2) (g' := (mkF m 11 #[vr sb, vi sv, vi 22, .unset] [(.int ((22 : Int32) + (own_sz sv)))])) (fun t k => ?_) ?_
 ·refine XS.iadd X2.here hx rfl (hb hby own_d21_10) rfl ?_
  exact k
 rw [show ((22 : Int32) + (own_sz sv)) = (own_L sv) from own_22 sv]
 refine own_st (T' := T2) (g' := (mkF m 14 #[vr sb, vi sv, vi 22, vi (own_L sv)] [(.int (own_L sv)), (.ref sb)])) (fun t k => ?_) ?_
 ·refine XS.istoreN X2.here hx rfl (hb hby own_d21_11) rfl (l' := #[vr sb, vi sv, vi 22, vi (own_L sv)]) rfl ?_
  refine XS.aloadN X2.here hx rfl (hb hby own_d21_12) rfl rfl ?_
  refine XS.iloadN X2.here hx rfl (hb hby own_d21_13) rfl ?_
  exact k
 obtain ⟨cq3, q3, q3'⟩ := E_b.cell
 obtain ⟨_, _, ⟨T3, L3, c3, n3⟩, -, X3, ⟨Lc3, hQ3, l3, y3, z3⟩, st3⟩ := X2.privateBack hx (y := own_y12) hown (om hZ hw 69 rfl) (om hZ hw 70 rfl) (own_selp (om hZ hw 72 rfl) (Cond.privateMethod_at (mvP hZ (own_w hw 71 rfl) (args := #[]))) (om hZ hw 70 rfl (args := #[])) (by decide)) (Cond.privateMethod_at (mvP hZ (own_w hw 71 rfl) (args := #[]))) (om hZ hw 73 rfl) (by decide) (backOf (W := 0) (own_rm11_b l Z a0 hw sb bf kb sv cs h0 n0 Z0 O0 E_b B_v B_c B_n V_b hcs S_cs) hZ (own_w hw 73 rfl) (own_w hw 26 rfl) (by decide) (by decide)) (g := (mkF m 14 #[vr sb, vi sv, vi 22, vi (own_L sv)] [(.int (own_L sv)), (.ref sb)])) rfl (by rw [hml]; rfl) (Steps.refl _) (a := sb) (by rw [e2]; exact q3) q3' (argsL := [(.int (own_L sv))]) (rest := []) (lenOf own_pd2 rfl) rfl (by show 2 * 0 + _ ≤ _; exact Nat.le_of_eq rfl) (hb hby own_d21_14) (fun _ _ => ⟨rfl, e2, (by decide : 0 + 0 ≤ _), (by decide : 0 + 0 ≤ _)⟩)
 dsimp only [Pt.U, Pt.locs, Pt.cells, Pt.slots] at X3 l3 y3 z3 st3 hQ3
 subst l3 y3 z3
 obtain ⟨rfl, N3q, e3⟩ := hQ3
 have N3 := Fr.app N2 N3q
 refine own_tr (T' := T3) (g' := (mkF m 17 #[vr sb, vi sv, vi 22, vi (own_L sv)] [])) st3 ?_
 refine own_st (T' := T3) (g' := (mkF m 18 #[vr sb, vi sv, vi 22, vi (own_L sv)] [(.ref sb)])) (fun t k => ?_) ?_
 ·refine XS.aloadN X3.here hx rfl (hb hby own_d21_17) rfl rfl ?_
  exact k
 obtain ⟨cq4, kq4, q4a, q4b, q4c⟩ := isOf hZ e3 E_b
 obtain ⟨_, _, ⟨T4, L4, c4, n4⟩, -, X4, ⟨Lc4, hQ4, l4, y4, z4⟩, st4⟩ := X3.virtualBack hx (y := own_y18) (z := own_y18) hown (om hZ hw 129 rfl) (om hZ hw 130 rfl) (notFace_of_selects (args := #[]) (om hZ hw 132 rfl)) (om hZ hw 132 rfl) (om hZ hw 131 rfl) (by decide) (backOf (W := 0) (own_rm23 l Z a0 hw sb cs h0 n0 Z0 O0 B_c hcs S_cs) hZ (own_w hw 133 rfl) (own_w hw 26 rfl) (by decide) (by decide)) q4a q4c (g := (mkF m 18 #[vr sb, vi sv, vi 22, vi (own_L sv)] [(.ref sb)])) rfl (by rw [hml]; rfl) (Steps.refl _) (argsL := []) (rest := []) (lenOf own_pd11 rfl) rfl (by show 2 * 0 + _ ≤ _; exact Nat.le_of_eq rfl) (hb hby own_d21_18) (fun _ _ => ⟨rfl, e3, (by decide : 0 + 0 ≤ _), (by decide : 0 + 0 ≤ _)⟩)
 dsimp only [Pt.U, Pt.locs, Pt.cells, Pt.slots] at X4 l4 y4 z4 st4 hQ4
 subst l4 y4 z4
 obtain ⟨rfl, N4q, e4⟩ := hQ4
 have N4 := Fr.app N3 N4q
 refine own_tr (T' := T4) (g' := (mkF m 21 #[vr sb, vi sv, vi 22, vi (own_L sv)] [(.int 1)])) st4 ?_
 refine own_st (T' := T4) (g' := (mkF m 27 #[vr sb, vi sv, vi 22, vi (own_L sv)] [(.ref sb), (.int (own_L sv)), (.int sv)])) (fun t k => ?_) ?_
 ·refine XS.ifNo X4.here hx rfl (hb hby own_d21_21) rfl ((if0 _ _).trans (feq (by decide : ¬ ((1 : Int32) = (0 : Int32)))).1) ?_
  refine XS.iloadN X4.here hx rfl (hb hby own_d21_24) rfl ?_
  refine XS.iloadN X4.here hx rfl (hb hby own_d21_25) rfl ?_
  refine XS.aloadN X4.here hx rfl (hb hby own_d21_26) rfl rfl ?_
  exact k
 obtain ⟨T5, X5, e5, st5⟩ := getF X4 hx hZ hown (host := "") (Or.inl (own_w hw 34 rfl)) Via.refl e4 B_v (g := (mkF m 27 #[vr sb, vi sv, vi 22, vi (own_L sv)] [(.ref sb), (.int (own_L sv)), (.int sv)])) rfl rfl (hb hby own_d21_27)
 refine own_st (T' := T5) (g' := (mkF m 30 #[vr sb, vi sv, vi 22, vi (own_L sv)] [(.ref bf), (.int (own_L sv)), (.int sv)])) st5 ?_
 obtain ⟨_, _, ⟨T6, L6, c6, n6⟩, -, X6, ⟨Lc6, hQ6, l6, y6, z6⟩, st6⟩ := Jvm.LawKit.callS X5 hx (y := own_y0) hown (om hZ hw 134 rfl) (om hZ hw 135 rfl) (om hZ hw 8 rfl) (om hZ hw 136 rfl) (by decide) (backOf (W := 0) (own_rm24 l Z a0 hw sv (own_L sv) bf kb own_lit34 (own_tl sv) d1 d2 kd1 kd2 h0 n0 Z0 O0 V_b g_f rfl (own_L_i sv) (own_gp sv) (Nat.le_trans (own_tl_r sv).2 (by decide)) S_o S_t V_o V_t) hZ (own_w hw 136 rfl) (own_w hw 8 rfl) (by decide) (by decide)) (g := (mkF m 30 #[vr sb, vi sv, vi 22, vi (own_L sv)] [(.ref bf), (.int (own_L sv)), (.int sv)])) rfl (by rw [hml]; rfl) (argsL := [(.int sv), (.int (own_L sv)), (.ref bf)]) (rest := []) (lenOf own_pd12 rfl) rfl (by show 2 * 0 + _ ≤ _; exact Nat.le_of_eq rfl) (hb hby own_d21_30) (fun _ _ => ⟨rfl, e5, (by decide : 0 + 0 ≤ _), (by decide : 0 + 0 ≤ _)⟩)
 dsimp only [Pt.U, Pt.locs, Pt.cells, Pt.slots] at X6 l6 y6 z6 st6 hQ6
 subst l6 y6 z6
 obtain ⟨h6, e6⟩ : ∃ z, T6.heap = z := ⟨_, rfl⟩
 rw [e6] at hQ6
 obtain ⟨z6, rfl, N6q, Kc6, Vc6⟩ := hQ6
 have N6 := Fr.app N4 N6q
 have K6 : Keep h0 h6 [sb, bf] := (Keep.refl h0 [sb, bf]).trans Kc6 (allS (Or.inl (List.mem_of_getElem? (i := 1) rfl)) all0)
 have Z6 : n0 ≤ h6.size := Nat.le_trans Z0 Kc6.1
 have O6 := O0.keep Kc6 (allS g_f all0)
 refine own_st (T' := T6) (g' := (mkF m 33 #[vr sb, vi sv, vi 22, vi (own_L sv)] [(.int z6)])) st6 ?_
 refine own_st (T' := T6) (g' := (mkF m 50 #[vr sb, vi sv, vi 22, vi (own_L sv)] [(.int (own_L sv)), (.ref sb)])) (fun t k => ?_) ?_
 ·refine XS.pop X6.here hx rfl (hb hby own_d21_33) rfl rfl ?_
  refine XS.goto X6.here hx rfl (pc0 := 34) (pc' := 48) rfl (hb hby own_d21_34) (by decide) (by decide) ?_
  refine XS.aloadN X6.here hx rfl (hb hby own_d21_48) rfl rfl ?_
  refine XS.iloadN X6.here hx rfl (hb hby own_d21_49) rfl ?_
  exact k
 have f7 := B_n.keep Kc6 (ninS nsb nin0)
 have f8 := E_b.keep Kc6
 obtain ⟨T9, h9, X9, e9, W9, st9⟩ := putF X6 hx hZ hown (host := "") (Or.inl (own_w hw 67 rfl)) Via.refl e6 f7 f8 (Or.inl (own_w hw 68 rfl)) (own_w hw 17 rfl) (ty := .int) (by decide) rfl rfl (g := (mkF m 50 #[vr sb, vi sv, vi 22, vi (own_L sv)] [(.int (own_L sv)), (.ref sb)])) rfl rfl (hb hby own_d21_50)
 have N9 := Fr.snoc X9 N6 g_b
 have K9 : Keep h0 h9 [sb, bf] := K6.wr W9 (Or.inl (List.mem_of_getElem? (i := 0) rfl))
 have Z9 : n0 ≤ h9.size := Nat.le_trans Z6 (Keep.of_wr W9).1
 have O9 := O6.wr W9 g_b
 have fw9 := (f7.same W9)
 refine own_st (T' := T9) (g' := (mkF m 53 #[vr sb, vi sv, vi 22, vi (own_L sv)] [])) st9 ?_
 have f10 := (B_v.keep Kc6 (ninS nsb nin0)).other W9 (Or.inr (slot_ne (Or.inl (own_w hw 35 rfl)) (Or.inl (own_w hw 68 rfl)) (by decide) (t := (.array .byte)) (t' := .int) (by decide) (by decide)))
 have f11 := (B_c.keep Kc6 (ninS nsb nin0)).other W9 (Or.inr (slot_ne (Or.inl (own_w hw 37 rfl)) (Or.inl (own_w hw 68 rfl)) (by decide) (t := .byte) (t' := .int) (by decide) (by decide)))
 have f12 := Vc6.other W9 (Ne.symm nsb)
 refine own_st (T' := T9) (g' := (mkF m 54 #[vr sb, vi sv, vi 22, vi (own_L sv)] [(.ref sb)])) (fun t k => ?_) ?_
 ·refine XS.aloadN X9.here hx rfl (hb hby own_d21_53) rfl rfl ?_
  exact k
 exact own_retA X9 hx Bd rfl rfl (hb hby own_d21_54) e9 (⟨rfl, N9, K9, f10, f11, fw9, f12⟩) (by decide) (by decide)
def own_r20 : Room := { frames := 2, cells := 0, slots := 0, locals := 33 }
def own_Q20 (Z : State) (sb bf : Addr) (kb : ClassId) (sv : Int32) (d1 d2 : Addr) (kd1 kd2 : ClassId) (cs : Int32) (h0 : Heap) (n0 : Nat) : Option Value → Heap → List Loc → Prop := fun v h L => v = some (.ref sb) ∧ Fr n0 L ∧ Keep h0 h [sb, bf] ∧ Fld Z h sb "java/lang/AbstractStringBuilder" "value" "[B" (.ref bf) ∧ Fld Z h sb "java/lang/AbstractStringBuilder" "coder" "B" (.int 0) ∧ Fld Z h sb "java/lang/AbstractStringBuilder" "count" "I" (.int (own_L sv)) ∧ Arv Z h bf kb .byte (34 : Int32) ((own_fin sv (own_tl sv) own_lit34).map Value.int) (.int 0)
theorem own_rm20 (l : Launch) (Z : State) (a0 : Array Value) (hw : own_W a0 Z) (sb bf : Addr) (kb : ClassId) (sv : Int32) (d1 d2 : Addr) (kd1 kd2 : ClassId) (cs : Int32) (h0 : Heap) (n0 : Nat) (Z0 : n0 ≤ h0.size) (O0 : Old Z n0 h0) (E_b : Exa Z h0 sb "java/lang/StringBuilder") (B_v : Fld Z h0 sb "java/lang/AbstractStringBuilder" "value" "[B" (.ref bf)) (B_c : Fld Z h0 sb "java/lang/AbstractStringBuilder" "coder" "B" (.int 0)) (B_n : Fld Z h0 sb "java/lang/AbstractStringBuilder" "count" "I" (.int 22)) (V_b : Arv Z h0 bf kb .byte (34 : Int32) (own_lit34.map Value.int) (.int 0)) (g_b : n0 ≤ sb) (g_f : n0 ≤ bf) (nsb : sb ≠ bf) (S_o : Sta Z Z.heap "java/lang/Integer" "DigitOnes" "[B" (.ref d1)) (S_t : Sta Z Z.heap "java/lang/Integer" "DigitTens" "[B" (.ref d2)) (V_o : Arv Z Z.heap d1 kd1 .byte (100 : Int32) (own_tab1.map Value.int) (.int 0)) (V_t : Arv Z Z.heap d2 kd2 .byte (100 : Int32) (own_tab2.map Value.int) (.int 0)) (hcs : ¬ cs = (0 : Int32)) (S_cs : Sta Z Z.heap "java/lang/String" "COMPACT_STRINGS" "Z" (.int cs)) :
  own_MF l Z own_y23 (Jvm.Cond.code own_y23 jdk_67_method_15_code 2 (some (.object "java/lang/StringBuilder"))) [] own_r20 #[(.ref sb), (.int sv)] h0 (own_Q20 Z sb bf kb sv d1 d2 kd1 kd2 cs h0 n0) := by
 refine own_open (plainFor_of_name own_pn5) hisR (Ls := #[vr sb, vi sv]) ?_
 intro p e s m below meth c s₁ Bd hZ hx hby hml hown X0 e0
 have N0 := Fr.nil n0
 refine own_st (T' := s₁) (g' := (mkF m 2 #[vr sb, vi sv] [(.int sv), (.ref sb)])) (fun t k => ?_) ?_
 ·refine XS.aloadN X0.here hx rfl (hb hby own_d20_0) rfl rfl ?_
  refine XS.iloadN X0.here hx rfl (hb hby own_d20_1) rfl ?_
  exact k
 obtain ⟨_, _, ⟨T1, L1, c1, n1⟩, -, X1, ⟨Lc1, hQ1, l1, y1, z1⟩, st1⟩ := superBack X0 hx hZ (y := own_y22) hown (own_w hw 122 rfl) (own_same (own_w hw 72 rfl) (own_w hw 123 rfl) rfl (by decide)) (own_w hw 123 rfl) (own_w hw 51 rfl) (by decide) (backOf (W := 0) (own_rm21 l Z a0 hw sb bf kb sv d1 d2 kd1 kd2 cs h0 n0 Z0 O0 E_b B_v B_c B_n V_b g_b g_f nsb S_o S_t V_o V_t hcs S_cs) hZ (own_w hw 125 rfl) (own_w hw 26 rfl) (by decide) (by decide)) e0 (Ins.self E_b) (g := (mkF m 2 #[vr sb, vi sv] [(.int sv), (.ref sb)])) rfl (by rw [hml]; rfl) (own_w hw 125 rfl) (argsL := [(.int sv)]) (rest := []) (lenOf own_pd13 rfl) rfl (by show 2 * 0 + _ ≤ _; exact Nat.le_of_eq rfl) (hb hby own_d20_2) (fun _ _ => ⟨rfl, e0, (by decide : 0 + 0 ≤ _), (by decide : 0 + 0 ≤ _)⟩)
 dsimp only [Pt.U, Pt.locs, Pt.cells, Pt.slots] at X1 l1 y1 z1 st1 hQ1
 subst l1 y1 z1
 obtain ⟨h1, e1⟩ : ∃ z, T1.heap = z := ⟨_, rfl⟩
 rw [e1] at hQ1
 obtain ⟨rfl, N1q, Kc1, Bv1, Bc1, Bn1, Vc1⟩ := hQ1
 have N1 := Fr.app N0 N1q
 have K1 : Keep h0 h1 [sb, bf] := (Keep.refl h0 [sb, bf]).trans Kc1 (allS (Or.inl (List.mem_of_getElem? (i := 0) rfl)) (allS (Or.inl (List.mem_of_getElem? (i := 1) rfl)) all0))
 have Z1 : n0 ≤ h1.size := Nat.le_trans Z0 Kc1.1
 have O1 := O0.keep Kc1 (allS g_b (allS g_f all0))
 refine own_tr (T' := T1) (g' := (mkF m 5 #[vr sb, vi sv] [(.ref sb)])) st1 ?_
 refine own_st (T' := T1) (g' := (mkF m 7 #[vr sb, vi sv] [(.ref sb)])) (fun t k => ?_) ?_
 ·refine XS.pop X1.here hx rfl (hb hby own_d20_5) rfl rfl ?_
  refine XS.aloadN X1.here hx rfl (hb hby own_d20_6) rfl rfl ?_
  exact k
 exact own_retA X1 hx Bd rfl rfl (hb hby own_d20_7) e1 (⟨rfl, N1, K1, Bv1, Bc1, Bn1, Vc1⟩) (by decide) (by decide)
def own_r33 : Room := { frames := 0, cells := 0, slots := 0, locals := 0 }
def own_Q33 (Z : State) (cn : Int32) (h0 : Heap) (n0 : Nat) : Option Value → Heap → List Loc → Prop := fun v h L => v = none ∧ Fr n0 L ∧ h = h0
theorem own_rm33 (l : Launch) (Z : State) (a0 : Array Value) (hw : own_W a0 Z) (cn : Int32) (h0 : Heap) (n0 : Nat) (Z0 : n0 ≤ h0.size) (hc0 : ¬ cn < (0 : Int32)) :
  own_MF l Z own_y24 (Jvm.Cond.code own_y24 jdk_65_method_131_code 2 none) [] own_r33 #[(.int 0), (.int cn)] h0 (own_Q33 Z cn h0 n0) := by
 refine own_open (plainFor_of_name own_pn6) hisR (Ls := #[vi 0, vi cn]) ?_
 intro p e s m below meth c s₁ Bd hZ hx hby hml hown X0 e0
 have N0 := Fr.nil n0
 refine own_st (T' := s₁) (g' := (mkF m 37 #[vi 0, vi cn] [])) (fun t k => ?_) ?_
 ·refine XS.iloadN X0.here hx rfl (hb hby own_d33_0) rfl ?_
  refine XS.iloadN X0.here hx rfl (hb hby own_d33_1) rfl ?_
  refine XS.icmpYes X0.here hx rfl (pc0 := 2) (pc' := 37) rfl (hb hby own_d33_2) rfl (flt hc0).2.1 (by decide) (by decide) ?_
  exact k
 exact own_retV X0 hx Bd (hb hby own_d33_37) e0 (⟨rfl, N0, rfl⟩) (by decide) (by decide)
def own_r32 : Room := { frames := 1, cells := 1, slots := 33, locals := 18 }
def own_Q32 (Z : State) (bf : Addr) (kb : ClassId) (bs : List Int32) (cn : Int32) (nn : Nat) (cs : Int32) (h0 : Heap) (n0 : Nat) : Option Value → Heap → List Loc → Prop := fun v h L => ∃ r k, v = some (.ref r) ∧ Fr n0 L ∧ Keep h0 h [] ∧ n0 ≤ r ∧ h0.size ≤ r ∧ Arv Z h r k .byte cn ((bs.take nn).map Value.int) (.int 0)
theorem own_rm32 (l : Launch) (Z : State) (a0 : Array Value) (hw : own_W a0 Z) (bf : Addr) (kb : ClassId) (bs : List Int32) (cn : Int32) (nn : Nat) (cs : Int32) (h0 : Heap) (n0 : Nat) (Z0 : n0 ≤ h0.size) (O0 : Old Z n0 h0) (V_b : Arv Z h0 bf kb .byte (34 : Int32) (bs.map Value.int) (.int 0)) (hbl : bs.length = 34) (hcn : cn.toInt = (nn : Int)) (hn3 : nn ≤ 33) (hcs : ¬ cs = (0 : Int32)) (S_cs : Sta Z Z.heap "java/lang/String" "COMPACT_STRINGS" "Z" (.int cs)) :
  own_MF l Z own_y25 (Jvm.Cond.code own_y25 jdk_65_method_133_code 5 (some (.array .byte))) [] own_r32 #[(.ref bf), (.int 0), (.int cn)] h0 (own_Q32 Z bf kb bs cn nn cs h0 n0) := by
 refine own_open (plainFor_of_name own_pn6) hisR (Ls := #[vr bf, vi 0, vi cn, .unset, .unset]) ?_
 intro p e s m below meth c s₁ Bd hZ hx hby hml hown X0 e0
 have N0 := Fr.nil n0
 refine own_st (T' := s₁) (g' := (mkF m 2 #[vr bf, vi 0, vi cn, .unset, .unset] [(.int cn), (.int 0)])) (fun t k => ?_) ?_
 ·refine XS.iloadN X0.here hx rfl (hb hby own_d32_0) rfl ?_
  refine XS.iloadN X0.here hx rfl (hb hby own_d32_1) rfl ?_
  exact k
 obtain ⟨_, _, ⟨T1, L1, c1, n1⟩, -, X1, ⟨Lc1, hQ1, l1, y1, z1⟩, st1⟩ := Jvm.LawKit.callS X0 hx (y := own_y24) hown (om hZ hw 172 rfl) (om hZ hw 173 rfl) (om hZ hw 91 rfl) (om hZ hw 174 rfl) (by decide) (backOf (W := 0) (own_rm33 l Z a0 hw cn h0 n0 Z0 (own_ge0 hcn)) hZ (own_w hw 174 rfl) (own_w hw 91 rfl) (by decide) (by decide)) (g := (mkF m 2 #[vr bf, vi 0, vi cn, .unset, .unset] [(.int cn), (.int 0)])) rfl (by rw [hml]; rfl) (argsL := [(.int 0), (.int cn)]) (rest := []) (lenOf own_pd14 rfl) rfl (by show 2 * 0 + _ ≤ _; exact Nat.le_of_eq rfl) (hb hby own_d32_2) (fun _ _ => ⟨rfl, e0, (by decide : 0 + 0 ≤ _), (by decide : 0 + 0 ≤ _)⟩)
 dsimp only [Pt.U, Pt.locs, Pt.cells, Pt.slots] at X1 l1 y1 z1 st1 hQ1
 subst l1 y1 z1
 obtain ⟨rfl, N1q, e1⟩ := hQ1
 have N1 := Fr.app N0 N1q
 refine own_st (T' := T1) (g' := (mkF m 5 #[vr bf, vi 0, vi cn, .unset, .unset] [])) st1 ?_
 refine own_st (T' := T1) (g' := (mkF m 8 #[vr bf, vi 0, vi cn, .unset, .unset] [(.int (cn - (0 : Int32)))])) (fun t k => ?_) ?_
 ·refine XS.iloadN X1.here hx rfl (hb hby own_d32_5) rfl ?_
  refine XS.iloadN X1.here hx rfl (hb hby own_d32_6) rfl ?_
  refine XS.isub X1.here hx rfl (hb hby own_d32_7) rfl ?_
  exact k
 rw [show (cn - (0 : Int32)) = cn from own_sub0 cn]
 refine own_st (T' := T1) (g' := (mkF m 10 #[vr bf, vi 0, vi cn, vi cn, .unset] [(.int cn)])) (fun t k => ?_) ?_
 ·refine XS.istoreN X1.here hx rfl (hb hby own_d32_8) rfl (l' := #[vr bf, vi 0, vi cn, vi cn, .unset]) rfl ?_
  refine XS.iloadN X1.here hx rfl (hb hby own_d32_9) rfl ?_
  exact k
 obtain ⟨T2, h2, k2, X2, e2, E2, A2, st2⟩ := newP X1 hx hZ (own_w hw 33 rfl) e1 (g := (mkF m 10 #[vr bf, vi 0, vi cn, vi cn, .unset] [(.int cn)])) rfl (hb hby own_d32_10) rfl (own_ge0 hcn) (cap := 33) (by rw [own_clamp hcn]; exact hn3) (by decide) (by decide) (by decide)
 obtain ⟨b2, g2⟩ : ∃ z, z = h0.size := ⟨_, rfl⟩
 rw [← g2] at A2 st2
 have sz2 : h0.size ≤ b2 := Nat.le_of_eq g2.symm
 have ne_bf_b2 : bf ≠ b2 := Nat.ne_of_lt (Nat.lt_of_lt_of_le V_b.lt sz2)
 have g_b2 : n0 ≤ b2 := Nat.le_trans Z0 sz2
 have hz_b2 : h0.size ≤ b2 := Nat.le_trans (Keep.refl h0 []).1 sz2
 have K2 : Keep h0 h2 [] := (Keep.refl h0 []).ext E2
 have Z2 : n0 ≤ h2.size := Nat.le_trans Z0 E2.1
 have O2 := O0.ext E2
 have V2 : Arv Z h2 b2 k2 .byte cn [] (.int 0) := Arv.new A2 (own_ge0 hcn)
 refine own_st (T' := T2) (g' := (mkF m 12 #[vr bf, vi 0, vi cn, vi cn, .unset] [(.ref b2)])) st2 ?_
 have Vp2 := own_lpad nn V2
 refine own_st (T' := T2) (g' := (mkF m 20 #[vr bf, vi 0, vi cn, vi cn, vr b2] [(.ref bf), (.int 0), (.ref b2), (.int 0), (.ref bf)])) (fun t k => ?_) ?_
 ·refine XS.astore X2.here hx rfl (hb hby own_d32_12) rfl rfl (l' := #[vr bf, vi 0, vi cn, vi cn, vr b2]) rfl ?_
  refine XS.aloadN X2.here hx rfl (hb hby own_d32_14) rfl rfl ?_
  refine XS.iloadN X2.here hx rfl (hb hby own_d32_15) rfl ?_
  refine XS.aload X2.here hx rfl (hb hby own_d32_16) rfl rfl ?_
  refine XS.iconst X2.here hx rfl (hb hby own_d32_18) ?_
  refine XS.aloadN X2.here hx rfl (hb hby own_d32_19) rfl rfl ?_
  exact k
 have f3 := V_b.ext E2
 obtain ⟨cl4, Ar4, q4, S4, M4, H4, G4⟩ := id f3
 refine own_st (T' := T2) (g' := (mkF m 24 #[vr bf, vi 0, vi cn, vi cn, vr b2] [(.int cn), (.int 34), (.int 0), (.ref b2), (.int 0), (.ref bf)])) (fun t k => ?_) ?_
 ·refine X2.arraylength hx (by rw [e2]; exact Ar4.1) (State.isArrayOf_alike hZ.alike Ar4.2.1) (g := (mkF m 20 #[vr bf, vi 0, vi cn, vi cn, vr b2] [(.ref bf), (.int 0), (.ref b2), (.int 0), (.ref bf)])) rfl rfl (hb hby own_d32_20) _ ?_
  rw [len_of S4 M4]
  refine XS.iloadN X2.here hx rfl (hb hby own_d32_21) rfl ?_
  refine XS.isub X2.here hx rfl (hb hby own_d32_22) rfl ?_
  refine XS.iloadN X2.here hx rfl (hb hby own_d32_23) rfl ?_
  exact k
 obtain ⟨_, _, ⟨T5, L5, c5, n5⟩, -, X5, ⟨Lc5, hQ5, l5, y5, z5⟩, st5⟩ := Jvm.LawKit.callS X2 hx (y := own_y4) hown (om hZ hw 93 rfl) (om hZ hw 94 rfl) (om hZ hw 85 rfl) (om hZ hw 95 rfl) (by decide) (backOf (W := 4) (own_rm16_b l Z a0 hw (34 : Int32) cn h2 n0 Z2 (own_lt34 hcn hn3)) hZ (own_w hw 95 rfl) (own_w hw 85 rfl) (by decide) (by decide)) (g := (mkF m 24 #[vr bf, vi 0, vi cn, vi cn, vr b2] [(.int cn), (.int 34), (.int 0), (.ref b2), (.int 0), (.ref bf)])) rfl (by rw [hml]; rfl) (argsL := [(.int 34), (.int cn)]) (rest := [(.int 0), (.ref b2), (.int 0), (.ref bf)]) (lenOf own_pd0 rfl) rfl (by show 2 * 0 + _ ≤ _; exact Nat.le_of_eq rfl) (hb hby own_d32_24) (fun _ _ => ⟨rfl, e2, (by decide : 1 + 0 ≤ _), (by decide : 33 + 0 ≤ _)⟩)
 dsimp only [Pt.U, Pt.locs, Pt.cells, Pt.slots] at X5 l5 y5 z5 st5 hQ5
 subst l5 y5 z5
 obtain ⟨rfl, N5q, e5⟩ := hQ5
 have N5 := Fr.app N1 N5q
 refine own_st (T' := T5) (g' := (mkF m 27 #[vr bf, vi 0, vi cn, vi cn, vr b2] [(.int cn), (.int 0), (.ref b2), (.int 0), (.ref bf)])) st5 ?_
 obtain ⟨T6, h6, Lc6, X6, e6, N6, Kc6, Vc6, st6⟩ := cpA X5 hx hZ hown (own_w hw 96 rfl) (own_w hw 99 rfl) (own_w hw 97 rfl) (own_w hw 98 rfl) e5 f3 Vp2 (Or.inl ⟨rfl, rfl⟩) (by decide) (by decide) (own_ge0 hcn) (by rw [own_clamp hcn]; show 0 + nn ≤ 34; omega) (by rw [own_clamp hcn]; show 0 + nn ≤ nn; omega) (us := (bs.take nn).map Value.int) (by rw [own_clamp hcn]; exact own_cpu hbl hn3) (by rw [own_clamp hcn]; simp) N5 g_b2 (g := (mkF m 27 #[vr bf, vi 0, vi cn, vi cn, vr b2] [(.int cn), (.int 0), (.ref b2), (.int 0), (.ref bf)])) rfl (by rw [hml]; rfl) rfl (hb hby own_d32_27) (by decide) (W := 0) (by show 2 * 0 + _ ≤ _; exact Nat.le_of_eq rfl) (by decide)
 rw [own_clamp hcn] at Vc6
 have K6 : Keep h0 h6 [] := K2.trans Kc6 (allS (Or.inr hz_b2) all0)
 have Z6 : n0 ≤ h6.size := Nat.le_trans Z2 Kc6.1
 have O6 := O2.keep Kc6 (allS g_b2 all0)
 have Vd6 : Arv Z h6 b2 k2 .byte cn ((bs.take nn).map Value.int) (.int 0) := own_cplF nn _ Vc6
 refine own_st (T' := T6) (g' := (mkF m 30 #[vr bf, vi 0, vi cn, vi cn, vr b2] [])) st6 ?_
 refine own_st (T' := T6) (g' := (mkF m 32 #[vr bf, vi 0, vi cn, vi cn, vr b2] [(.ref b2)])) (fun t k => ?_) ?_
 ·refine XS.aload X6.here hx rfl (hb hby own_d32_30) rfl rfl ?_
  exact k
 exact own_retA X6 hx Bd rfl rfl (hb hby own_d32_32) e6 (⟨b2, k2, rfl, N6, K6, g_b2, hz_b2, Vd6⟩) (by decide) (by decide)
def own_r31 : Room := { frames := 2, cells := 1, slots := 33, locals := 34 }
def own_Q31 (Z : State) (bf : Addr) (kb : ClassId) (bs : List Int32) (cn : Int32) (nn : Nat) (cs : Int32) (h0 : Heap) (n0 : Nat) : Option Value → Heap → List Loc → Prop := fun v h L => ∃ r k, v = some (.ref r) ∧ Fr n0 L ∧ Keep h0 h [] ∧ n0 ≤ r ∧ h0.size ≤ r ∧ Arv Z h r k .byte cn ((bs.take nn).map Value.int) (.int 0)
theorem own_rm31 (l : Launch) (Z : State) (a0 : Array Value) (hw : own_W a0 Z) (bf : Addr) (kb : ClassId) (bs : List Int32) (cn : Int32) (nn : Nat) (cs : Int32) (h0 : Heap) (n0 : Nat) (Z0 : n0 ≤ h0.size) (O0 : Old Z n0 h0) (V_b : Arv Z h0 bf kb .byte (34 : Int32) (bs.map Value.int) (.int 0)) (hbl : bs.length = 34) (hcn : cn.toInt = (nn : Int)) (hn3 : nn ≤ 33) (hcs : ¬ cs = (0 : Int32)) (S_cs : Sta Z Z.heap "java/lang/String" "COMPACT_STRINGS" "Z" (.int cs)) :
  own_MF l Z own_y26 (Jvm.Cond.code own_y26 jdk_65_method_132_code 3 (some (.array .byte))) [] own_r31 #[(.ref bf), (.int 0), (.int cn)] h0 (own_Q31 Z bf kb bs cn nn cs h0 n0) := by
 refine own_open (plainFor_of_name own_pn6) hisR (Ls := #[vr bf, vi 0, vi cn]) ?_
 intro p e s m below meth c s₁ Bd hZ hx hby hml hown X0 e0
 have N0 := Fr.nil n0
 refine own_st (T' := s₁) (g' := (mkF m 6 #[vr bf, vi 0, vi cn] [(.ref bf), (.int cn)])) (fun t k => ?_) ?_
 ·refine XS.iloadN X0.here hx rfl (hb hby own_d31_0) rfl ?_
  refine XS.ifNo X0.here hx rfl (hb hby own_d31_1) rfl ((if0 _ _).trans (teq (rfl : (0 : Int32) = (0 : Int32))).2) ?_
  refine XS.iloadN X0.here hx rfl (hb hby own_d31_4) rfl ?_
  refine XS.aloadN X0.here hx rfl (hb hby own_d31_5) rfl rfl ?_
  exact k
 obtain ⟨cl1, Ar1, q1, S1, M1, H1, G1⟩ := id V_b
 refine own_st (T' := s₁) (g' := (mkF m 13 #[vr bf, vi 0, vi cn] [(.int cn), (.int 0), (.ref bf)])) (fun t k => ?_) ?_
 ·refine X0.arraylength hx (by rw [e0]; exact Ar1.1) (State.isArrayOf_alike hZ.alike Ar1.2.1) (g := (mkF m 6 #[vr bf, vi 0, vi cn] [(.ref bf), (.int cn)])) rfl rfl (hb hby own_d31_6) _ ?_
  rw [len_of S1 M1]
  refine XS.icmpNo X0.here hx rfl (hb hby own_d31_7) rfl (feq (own_n34 hcn hn3)).1 ?_
  refine XS.aloadN X0.here hx rfl (hb hby own_d31_10) rfl rfl ?_
  refine XS.iloadN X0.here hx rfl (hb hby own_d31_11) rfl ?_
  refine XS.iloadN X0.here hx rfl (hb hby own_d31_12) rfl ?_
  exact k
 obtain ⟨_, _, ⟨T2, L2, c2, n2⟩, -, X2, ⟨Lc2, hQ2, l2, y2, z2⟩, st2⟩ := Jvm.LawKit.callS X0 hx (y := own_y25) hown (om hZ hw 169 rfl) (om hZ hw 170 rfl) (om hZ hw 91 rfl) (om hZ hw 171 rfl) (by decide) (backOf (W := 0) (own_rm32 l Z a0 hw bf kb bs cn nn cs h0 n0 Z0 O0 V_b hbl hcn hn3 hcs S_cs) hZ (own_w hw 171 rfl) (own_w hw 91 rfl) (by decide) (by decide)) (g := (mkF m 13 #[vr bf, vi 0, vi cn] [(.int cn), (.int 0), (.ref bf)])) rfl (by rw [hml]; rfl) (argsL := [(.ref bf), (.int 0), (.int cn)]) (rest := []) (lenOf own_pd15 rfl) rfl (by show 2 * 0 + _ ≤ _; exact Nat.le_of_eq rfl) (hb hby own_d31_13) (fun _ _ => ⟨rfl, e0, (by decide : 0 + 1 ≤ _), (by decide : 0 + 33 ≤ _)⟩)
 dsimp only [Pt.U, Pt.locs, Pt.cells, Pt.slots] at X2 l2 y2 z2 st2 hQ2
 subst l2 y2 z2
 obtain ⟨h2, e2⟩ : ∃ z, T2.heap = z := ⟨_, rfl⟩
 rw [e2] at hQ2
 obtain ⟨r2, k2, rfl, N2q, Kc2, g2, hz2, Vc2⟩ := hQ2
 have N2 := Fr.app N0 N2q
 have ne_bf_r2 : bf ≠ r2 := Nat.ne_of_lt (Nat.lt_of_lt_of_le V_b.lt hz2)
 have hwr2 : h0.size ≤ r2 := Nat.le_trans (Keep.refl h0 []).1 hz2
 have K2 : Keep h0 h2 [] := (Keep.refl h0 []).trans Kc2 all0
 have Z2 : n0 ≤ h2.size := Nat.le_trans Z0 Kc2.1
 have O2 := O0.keep Kc2 all0
 refine own_st (T' := T2) (g' := (mkF m 16 #[vr bf, vi 0, vi cn] [(.ref r2)])) st2 ?_
 exact own_retA X2 hx Bd rfl rfl (hb hby own_d31_16) e2 (⟨r2, k2, rfl, N2, K2, g2, hwr2, Vc2⟩) (by decide) (by decide)
def own_r27 : Room := { frames := 3, cells := 1, slots := 33, locals := 49 }
def own_Q27 (Z : State) (st sb : Addr) (bf : Addr) (kb : ClassId) (bs : List Int32) (cn : Int32) (nn : Nat) (cs : Int32) (h0 : Heap) (n0 : Nat) : Option Value → Heap → List Loc → Prop := fun v h L => ∃ t k, v = none ∧ Fr n0 L ∧ Keep h0 h [st] ∧ n0 ≤ t ∧ h0.size ≤ t ∧ Fld Z h st "java/lang/String" "value" "[B" (.ref t) ∧ Fld Z h st "java/lang/String" "coder" "B" (.int 0) ∧ Arv Z h t k .byte cn ((bs.take nn).map Value.int) (.int 0)
theorem own_rm27 (l : Launch) (Z : State) (a0 : Array Value) (hw : own_W a0 Z) (st sb : Addr) (bf : Addr) (kb : ClassId) (bs : List Int32) (cn : Int32) (nn : Nat) (cs : Int32) (h0 : Heap) (n0 : Nat) (Z0 : n0 ≤ h0.size) (O0 : Old Z n0 h0) (E_s : Exa Z h0 st "java/lang/String") (F_v : Fld Z h0 st "java/lang/String" "value" "[B" .null) (F_c : Fld Z h0 st "java/lang/String" "coder" "B" (.int 0)) (g_s : n0 ≤ st) (E_b : Exa Z h0 sb "java/lang/StringBuilder") (B_v : Fld Z h0 sb "java/lang/AbstractStringBuilder" "value" "[B" (.ref bf)) (B_c : Fld Z h0 sb "java/lang/AbstractStringBuilder" "coder" "B" (.int 0)) (B_n : Fld Z h0 sb "java/lang/AbstractStringBuilder" "count" "I" (.int cn)) (V_b : Arv Z h0 bf kb .byte (34 : Int32) (bs.map Value.int) (.int 0)) (hbl : bs.length = 34) (hcn : cn.toInt = (nn : Int)) (hn3 : nn ≤ 33) (nts : st ≠ sb) (ntb : st ≠ bf) (hcs : ¬ cs = (0 : Int32)) (S_cs : Sta Z Z.heap "java/lang/String" "COMPACT_STRINGS" "Z" (.int cs)) :
  own_MF l Z own_y27 (Jvm.Cond.code own_y27 jdk_42_method_150_code 5 none) [] own_r27 #[(.ref st), (.ref sb), .null] h0 (own_Q27 Z st sb bf kb bs cn nn cs h0 n0) := by
 refine own_open (plainFor_of_name own_pn3) hisR (Ls := #[vr st, vr sb, .val .null, .unset, .unset]) ?_
 intro p e s m below meth c s₁ Bd hZ hx hby hml hown X0 e0
 have N0 := Fr.nil n0
 have hnm := (name_of_methodNamed Bd.named Bd.method).1
 refine own_st (T' := s₁) (g' := (mkF m 1 #[vr st, vr sb, .val .null, .unset, .unset] [(.ref st)])) (fun t k => ?_) ?_
 ·refine XS.aloadN X0.here hx rfl (hb hby own_d27_0) rfl rfl ?_
  exact k
 obtain ⟨T1, X1, e1, st1⟩ := initO X0 hx hZ hown (own_w hw 151 rfl) (own_w hw 29 rfl) (own_w hw 30 rfl) e0 (g := (mkF m 1 #[vr st, vr sb, .val .null, .unset, .unset] [(.ref st)])) rfl (by rw [hml]; rfl) rfl (hb hby own_d27_1) (by decide) (W := 0) (by show 2 * 0 + _ ≤ _; exact Nat.le_of_eq rfl) (by decide)
 refine own_st (T' := T1) (g' := (mkF m 4 #[vr st, vr sb, .val .null, .unset, .unset] [])) st1 ?_
 refine own_st (T' := T1) (g' := (mkF m 5 #[vr st, vr sb, .val .null, .unset, .unset] [(.ref sb)])) (fun t k => ?_) ?_
 ·refine XS.aloadN X1.here hx rfl (hb hby own_d27_4) rfl rfl ?_
  exact k
 obtain ⟨cq2, kq2, q2a, q2b, q2c⟩ := isOf hZ e1 E_b
 obtain ⟨_, _, ⟨T2, L2, c2, n2⟩, -, X2, ⟨Lc2, hQ2, l2, y2, z2⟩, st2⟩ := X1.virtualBack hx (y := own_y19) (z := own_y19) hown (om hZ hw 152 rfl) (om hZ hw 153 rfl) (notFace_of_selects (args := #[]) (om hZ hw 155 rfl)) (om hZ hw 155 rfl) (om hZ hw 154 rfl) (by decide) (backOf (W := 0) (own_rm28 l Z a0 hw sb (.ref bf) h0 n0 Z0 rfl B_v) hZ (own_w hw 156 rfl) (own_w hw 26 rfl) (by decide) (by decide)) q2a q2c (g := (mkF m 5 #[vr st, vr sb, .val .null, .unset, .unset] [(.ref sb)])) rfl (by rw [hml]; rfl) (Steps.refl _) (argsL := []) (rest := []) (lenOf own_pd16 rfl) rfl (by show 2 * 0 + _ ≤ _; exact Nat.le_of_eq rfl) (hb hby own_d27_5) (fun _ _ => ⟨rfl, e1, (by decide : 0 + 0 ≤ _), (by decide : 0 + 0 ≤ _)⟩)
 dsimp only [Pt.U, Pt.locs, Pt.cells, Pt.slots] at X2 l2 y2 z2 st2 hQ2
 subst l2 y2 z2
 obtain ⟨rfl, N2q, e2⟩ := hQ2
 have N2 := Fr.app N0 N2q
 refine own_tr (T' := T2) (g' := (mkF m 8 #[vr st, vr sb, .val .null, .unset, .unset] [(.ref bf)])) st2 ?_
 refine own_st (T' := T2) (g' := (mkF m 10 #[vr st, vr sb, .val .null, vr bf, .unset] [(.ref sb)])) (fun t k => ?_) ?_
 ·refine XS.astoreN X2.here hx rfl (hb hby own_d27_8) rfl rfl (l' := #[vr st, vr sb, .val .null, vr bf, .unset]) rfl ?_
  refine XS.aloadN X2.here hx rfl (hb hby own_d27_9) rfl rfl ?_
  exact k
 obtain ⟨cq3, kq3, q3a, q3b, q3c⟩ := isOf hZ e2 E_b
 obtain ⟨_, _, ⟨T3, L3, c3, n3⟩, -, X3, ⟨Lc3, hQ3, l3, y3, z3⟩, st3⟩ := X2.virtualBack hx (y := own_y20) (z := own_y21) hown (om hZ hw 157 rfl) (om hZ hw 158 rfl) (own_nf (args := #[]) (om hZ hw 72 rfl) rfl) (om hZ hw 160 rfl) (om hZ hw 161 rfl) (by decide) (backOf (W := 0) (own_rm29 l Z a0 hw sb cn h0 n0 Z0 E_b B_n) hZ (own_w hw 162 rfl) (own_w hw 18 rfl) (by decide) (by decide)) q3a q3c (g := (mkF m 10 #[vr st, vr sb, .val .null, vr bf, .unset] [(.ref sb)])) rfl (by rw [hml]; rfl) (Steps.refl _) (argsL := []) (rest := []) (lenOf own_pd8 rfl) rfl (by show 2 * 0 + _ ≤ _; exact Nat.le_of_eq rfl) (hb hby own_d27_10) (fun _ _ => ⟨rfl, e2, (by decide : 0 + 0 ≤ _), (by decide : 0 + 0 ≤ _)⟩)
 dsimp only [Pt.U, Pt.locs, Pt.cells, Pt.slots] at X3 l3 y3 z3 st3 hQ3
 subst l3 y3 z3
 obtain ⟨rfl, N3q, e3⟩ := hQ3
 have N3 := Fr.app N2 N3q
 refine own_tr (T' := T3) (g' := (mkF m 13 #[vr st, vr sb, .val .null, vr bf, .unset] [(.int cn)])) st3 ?_
 refine own_st (T' := T3) (g' := (mkF m 16 #[vr st, vr sb, .val .null, vr bf, vi cn] [(.ref sb)])) (fun t k => ?_) ?_
 ·refine XS.istore X3.here hx rfl (hb hby own_d27_13) rfl (l' := #[vr st, vr sb, .val .null, vr bf, vi cn]) rfl ?_
  refine XS.aloadN X3.here hx rfl (hb hby own_d27_15) rfl rfl ?_
  exact k
 obtain ⟨cq4, kq4, q4a, q4b, q4c⟩ := isOf hZ e3 E_b
 obtain ⟨_, _, ⟨T4, L4, c4, n4⟩, -, X4, ⟨Lc4, hQ4, l4, y4, z4⟩, st4⟩ := X3.virtualBack hx (y := own_y18) (z := own_y18) hown (om hZ hw 165 rfl) (om hZ hw 130 rfl) (notFace_of_selects (args := #[]) (om hZ hw 132 rfl)) (om hZ hw 132 rfl) (om hZ hw 131 rfl) (by decide) (backOf (W := 0) (own_rm23 l Z a0 hw sb cs h0 n0 Z0 O0 B_c hcs S_cs) hZ (own_w hw 133 rfl) (own_w hw 26 rfl) (by decide) (by decide)) q4a q4c (g := (mkF m 16 #[vr st, vr sb, .val .null, vr bf, vi cn] [(.ref sb)])) rfl (by rw [hml]; rfl) (Steps.refl _) (argsL := []) (rest := []) (lenOf own_pd11 rfl) rfl (by show 2 * 0 + _ ≤ _; exact Nat.le_of_eq rfl) (hb hby own_d27_16) (fun _ _ => ⟨rfl, e3, (by decide : 0 + 0 ≤ _), (by decide : 0 + 0 ≤ _)⟩)
 dsimp only [Pt.U, Pt.locs, Pt.cells, Pt.slots] at X4 l4 y4 z4 st4 hQ4
 subst l4 y4 z4
 obtain ⟨rfl, N4q, e4⟩ := hQ4
 have N4 := Fr.app N3 N4q
 refine own_tr (T' := T4) (g' := (mkF m 19 #[vr st, vr sb, .val .null, vr bf, vi cn] [(.int 1)])) st4 ?_
 refine own_st (T' := T4) (g' := (mkF m 24 #[vr st, vr sb, .val .null, vr bf, vi cn] [(.int 0), (.ref st)])) (fun t k => ?_) ?_
 ·refine XS.ifNo X4.here hx rfl (hb hby own_d27_19) rfl ((if0 _ _).trans (feq (by decide : ¬ ((1 : Int32) = (0 : Int32)))).1) ?_
  refine XS.aloadN X4.here hx rfl (hb hby own_d27_22) rfl rfl ?_
  refine XS.iconst X4.here hx rfl (hb hby own_d27_23) ?_
  exact k
 obtain ⟨T5, h5, X5, e5, W5, st5⟩ := putFN X4 hx hZ hown (own_w hw 66 rfl) Via.refl e4 F_c E_s (Or.inr ⟨(own_w hw 41 rfl), rfl, hnm⟩) (own_w hw 39 rfl) (ty := .byte) (v' := (.int 0)) (by decide) rfl rfl (g := (mkF m 24 #[vr st, vr sb, .val .null, vr bf, vi cn] [(.int 0), (.ref st)])) rfl rfl (hb hby own_d27_24)
 have N5 := Fr.snoc X5 N4 g_s
 have K5 : Keep h0 h5 [st] := (Keep.refl h0 [st]).wr W5 (Or.inl (List.mem_of_getElem? (i := 0) rfl))
 have Z5 : n0 ≤ h5.size := Nat.le_trans Z0 (Keep.of_wr W5).1
 have O5 := O0.wr W5 g_s
 have fw5 := (F_c.same W5)
 refine own_st (T' := T5) (g' := (mkF m 27 #[vr st, vr sb, .val .null, vr bf, vi cn] [])) st5 ?_
 refine own_st (T' := T5) (g' := (mkF m 32 #[vr st, vr sb, .val .null, vr bf, vi cn] [(.int cn), (.int 0), (.ref bf), (.ref st)])) (fun t k => ?_) ?_
 ·refine XS.aloadN X5.here hx rfl (hb hby own_d27_27) rfl rfl ?_
  refine XS.aloadN X5.here hx rfl (hb hby own_d27_28) rfl rfl ?_
  refine XS.iconst X5.here hx rfl (hb hby own_d27_29) ?_
  refine XS.iload X5.here hx rfl (hb hby own_d27_30) rfl ?_
  exact k
 have f6 := V_b.other W5 (Ne.symm ntb)
 obtain ⟨_, _, ⟨T7, L7, c7, n7⟩, -, X7, ⟨Lc7, hQ7, l7, y7, z7⟩, st7⟩ := Jvm.LawKit.callS X5 hx (y := own_y26) hown (om hZ hw 166 rfl) (om hZ hw 167 rfl) (om hZ hw 91 rfl) (om hZ hw 168 rfl) (by decide) (backOf (W := 1) (own_rm31 l Z a0 hw bf kb bs cn nn cs h5 n0 Z5 O5 f6 hbl hcn hn3 hcs S_cs) hZ (own_w hw 168 rfl) (own_w hw 91 rfl) (by decide) (by decide)) (g := (mkF m 32 #[vr st, vr sb, .val .null, vr bf, vi cn] [(.int cn), (.int 0), (.ref bf), (.ref st)])) rfl (by rw [hml]; rfl) (argsL := [(.ref bf), (.int 0), (.int cn)]) (rest := [(.ref st)]) (lenOf own_pd15 rfl) rfl (by show 2 * 0 + _ ≤ _; exact Nat.le_of_eq rfl) (hb hby own_d27_32) (fun _ _ => ⟨rfl, e5, (by decide : 0 + 1 ≤ _), (by decide : 0 + 33 ≤ _)⟩)
 dsimp only [Pt.U, Pt.locs, Pt.cells, Pt.slots] at X7 l7 y7 z7 st7 hQ7
 subst l7 y7 z7
 obtain ⟨h7, e7⟩ : ∃ z, T7.heap = z := ⟨_, rfl⟩
 rw [e7] at hQ7
 obtain ⟨r7, k7, rfl, N7q, Kc7, g7, hz7, Vc7⟩ := hQ7
 have N7 := Fr.app N5 N7q
 have f8 := E_s.wr W5
 have ne_st_r7 : st ≠ r7 := Nat.ne_of_lt (Nat.lt_of_lt_of_le f8.lt hz7)
 have f9 := E_b.wr W5
 have ne_sb_r7 : sb ≠ r7 := Nat.ne_of_lt (Nat.lt_of_lt_of_le f9.lt hz7)
 have ne_bf_r7 : bf ≠ r7 := Nat.ne_of_lt (Nat.lt_of_lt_of_le f6.lt hz7)
 have hwr7 : h0.size ≤ r7 := Nat.le_trans K5.1 hz7
 have K7 : Keep h0 h7 [st] := K5.trans Kc7 all0
 have Z7 : n0 ≤ h7.size := Nat.le_trans Z5 Kc7.1
 have O7 := O5.keep Kc7 all0
 refine own_st (T' := T7) (g' := (mkF m 35 #[vr st, vr sb, .val .null, vr bf, vi cn] [(.ref r7), (.ref st)])) st7 ?_
 have f10 := (F_v.other W5 (Or.inr (slot_ne (Or.inr (own_w hw 40 rfl)) (Or.inr (own_w hw 41 rfl)) (by decide) (t := (.array .byte)) (t' := .byte) (by decide) (by decide)))).keep Kc7 nin0
 have f11 := f8.keep Kc7
 obtain ⟨T12, h12, X12, e12, W12, st12⟩ := putF X7 hx hZ hown (host := "") (Or.inl (own_w hw 59 rfl)) Via.refl e7 f10 f11 (Or.inr ⟨(own_w hw 40 rfl), rfl, hnm⟩) (own_w hw 39 rfl) (ty := (.array .byte)) (by decide) rfl rfl (g := (mkF m 35 #[vr st, vr sb, .val .null, vr bf, vi cn] [(.ref r7), (.ref st)])) rfl rfl (hb hby own_d27_35)
 have N12 := Fr.snoc X12 N7 g_s
 have K12 : Keep h0 h12 [st] := K7.wr W12 (Or.inl (List.mem_of_getElem? (i := 0) rfl))
 have Z12 : n0 ≤ h12.size := Nat.le_trans Z7 (Keep.of_wr W12).1
 have O12 := O7.wr W12 g_s
 have fw12 := (f10.same W12)
 refine own_st (T' := T12) (g' := (mkF m 38 #[vr st, vr sb, .val .null, vr bf, vi cn] [])) st12 ?_
 have f13 := (fw5.keep Kc7 nin0).other W12 (Or.inr (slot_ne (Or.inr (own_w hw 41 rfl)) (Or.inr (own_w hw 40 rfl)) (by decide) (t := .byte) (t' := (.array .byte)) (by decide) (by decide)))
 have f14 := Vc7.other W12 (Ne.symm ne_st_r7)
 refine own_st (T' := T12) (g' := (mkF m 97 #[vr st, vr sb, .val .null, vr bf, vi cn] [])) (fun t k => ?_) ?_
 ·refine XS.goto X12.here hx rfl (pc0 := 38) (pc' := 97) rfl (hb hby own_d27_38) (by decide) (by decide) ?_
  exact k
 exact own_retV X12 hx Bd (hb hby own_d27_97) e12 (⟨r7, k7, rfl, N12, K12, g7, hwr7, fw12, f13, f14⟩) (by decide) (by decide)
def own_r26 : Room := { frames := 4, cells := 1, slots := 33, locals := 65 }
def own_Q26 (Z : State) (st sb : Addr) (bf : Addr) (kb : ClassId) (bs : List Int32) (cn : Int32) (nn : Nat) (cs : Int32) (h0 : Heap) (n0 : Nat) : Option Value → Heap → List Loc → Prop := fun v h L => ∃ t k, v = none ∧ Fr n0 L ∧ Keep h0 h [st] ∧ n0 ≤ t ∧ h0.size ≤ t ∧ Fld Z h st "java/lang/String" "value" "[B" (.ref t) ∧ Fld Z h st "java/lang/String" "coder" "B" (.int 0) ∧ Arv Z h t k .byte cn ((bs.take nn).map Value.int) (.int 0)
theorem own_rm26 (l : Launch) (Z : State) (a0 : Array Value) (hw : own_W a0 Z) (st sb : Addr) (bf : Addr) (kb : ClassId) (bs : List Int32) (cn : Int32) (nn : Nat) (cs : Int32) (h0 : Heap) (n0 : Nat) (Z0 : n0 ≤ h0.size) (O0 : Old Z n0 h0) (E_s : Exa Z h0 st "java/lang/String") (F_v : Fld Z h0 st "java/lang/String" "value" "[B" .null) (F_c : Fld Z h0 st "java/lang/String" "coder" "B" (.int 0)) (g_s : n0 ≤ st) (E_b : Exa Z h0 sb "java/lang/StringBuilder") (B_v : Fld Z h0 sb "java/lang/AbstractStringBuilder" "value" "[B" (.ref bf)) (B_c : Fld Z h0 sb "java/lang/AbstractStringBuilder" "coder" "B" (.int 0)) (B_n : Fld Z h0 sb "java/lang/AbstractStringBuilder" "count" "I" (.int cn)) (V_b : Arv Z h0 bf kb .byte (34 : Int32) (bs.map Value.int) (.int 0)) (hbl : bs.length = 34) (hcn : cn.toInt = (nn : Int)) (hn3 : nn ≤ 33) (nts : st ≠ sb) (ntb : st ≠ bf) (hcs : ¬ cs = (0 : Int32)) (S_cs : Sta Z Z.heap "java/lang/String" "COMPACT_STRINGS" "Z" (.int cs)) :
  own_MF l Z own_y28 (Jvm.Cond.code own_y28 jdk_42_method_53_code 2 none) [] own_r26 #[(.ref st), (.ref sb)] h0 (own_Q26 Z st sb bf kb bs cn nn cs h0 n0) := by
 refine own_open (plainFor_of_name own_pn3) hisR (Ls := #[vr st, vr sb]) ?_
 intro p e s m below meth c s₁ Bd hZ hx hby hml hown X0 e0
 have N0 := Fr.nil n0
 refine own_st (T' := s₁) (g' := (mkF m 3 #[vr st, vr sb] [.null, (.ref sb), (.ref st)])) (fun t k => ?_) ?_
 ·refine XS.aloadN X0.here hx rfl (hb hby own_d26_0) rfl rfl ?_
  refine XS.aloadN X0.here hx rfl (hb hby own_d26_1) rfl rfl ?_
  refine XS.aconstNull X0.here hx rfl (hb hby own_d26_2) ?_
  exact k
 obtain ⟨_, _, ⟨T1, L1, c1, n1⟩, -, X1, ⟨Lc1, hQ1, l1, y1, z1⟩, st1⟩ := X0.specialBack hx (y := own_y27) rfl hown (om hZ hw 148 rfl) (om hZ hw 149 rfl) (om hZ hw 150 rfl) (by decide) (backOf (W := 0) (own_rm27 l Z a0 hw st sb bf kb bs cn nn cs h0 n0 Z0 O0 E_s F_v F_c g_s E_b B_v B_c B_n V_b hbl hcn hn3 nts ntb hcs S_cs) hZ (own_w hw 150 rfl) (own_w hw 32 rfl) (by decide) (by decide)) (g := (mkF m 3 #[vr st, vr sb] [.null, (.ref sb), (.ref st)])) rfl (by rw [hml]; rfl) (Steps.refl _) (a := st) (argsL := [(.ref sb), .null]) (rest := []) (lenOf own_pd17 rfl) rfl (by show 2 * 0 + _ ≤ _; exact Nat.le_of_eq rfl) (hb hby own_d26_3) (fun _ _ => ⟨rfl, e0, (by decide : 0 + 1 ≤ _), (by decide : 0 + 33 ≤ _)⟩)
 dsimp only [Pt.U, Pt.locs, Pt.cells, Pt.slots] at X1 l1 y1 z1 st1 hQ1
 subst l1 y1 z1
 obtain ⟨h1, e1⟩ : ∃ z, T1.heap = z := ⟨_, rfl⟩
 rw [e1] at hQ1
 obtain ⟨t1, k1, rfl, N1q, Kc1, g1, hz1, Fv1, Fo1, Vc1⟩ := hQ1
 have N1 := Fr.app N0 N1q
 have ne_st_t1 : st ≠ t1 := Nat.ne_of_lt (Nat.lt_of_lt_of_le E_s.lt hz1)
 have ne_sb_t1 : sb ≠ t1 := Nat.ne_of_lt (Nat.lt_of_lt_of_le E_b.lt hz1)
 have ne_bf_t1 : bf ≠ t1 := Nat.ne_of_lt (Nat.lt_of_lt_of_le V_b.lt hz1)
 have hwt1 : h0.size ≤ t1 := Nat.le_trans (Keep.refl h0 [st]).1 hz1
 have K1 : Keep h0 h1 [st] := (Keep.refl h0 [st]).trans Kc1 (allS (Or.inl (List.mem_of_getElem? (i := 0) rfl)) all0)
 have Z1 : n0 ≤ h1.size := Nat.le_trans Z0 Kc1.1
 have O1 := O0.keep Kc1 (allS g_s all0)
 refine own_tr (T' := T1) (g' := (mkF m 6 #[vr st, vr sb] [])) st1 ?_
 exact own_retV X1 hx Bd (hb hby own_d26_6) e1 (⟨t1, k1, rfl, N1, K1, g1, hwt1, Fv1, Fo1, Vc1⟩) (by decide) (by decide)
def own_r25 : Room := { frames := 5, cells := 2, slots := 37, locals := 79 }
def own_Q25 (Z : State) (sb : Addr) (bf : Addr) (kb : ClassId) (bs : List Int32) (cn : Int32) (nn : Nat) (cs : Int32) (h0 : Heap) (n0 : Nat) : Option Value → Heap → List Loc → Prop := fun v h L => ∃ x t k, v = some (.ref x) ∧ Fr n0 L ∧ Keep h0 h [] ∧ n0 ≤ x ∧ h0.size ≤ x ∧ n0 ≤ t ∧ h0.size ≤ t ∧ Exa Z h x "java/lang/String" ∧ Fld Z h x "java/lang/String" "value" "[B" (.ref t) ∧ Fld Z h x "java/lang/String" "coder" "B" (.int 0) ∧ Arv Z h t k .byte cn ((bs.take nn).map Value.int) (.int 0)
theorem own_rm25 (l : Launch) (Z : State) (a0 : Array Value) (hw : own_W a0 Z) (sb : Addr) (bf : Addr) (kb : ClassId) (bs : List Int32) (cn : Int32) (nn : Nat) (cs : Int32) (h0 : Heap) (n0 : Nat) (Z0 : n0 ≤ h0.size) (O0 : Old Z n0 h0) (E_b : Exa Z h0 sb "java/lang/StringBuilder") (B_v : Fld Z h0 sb "java/lang/AbstractStringBuilder" "value" "[B" (.ref bf)) (B_c : Fld Z h0 sb "java/lang/AbstractStringBuilder" "coder" "B" (.int 0)) (B_n : Fld Z h0 sb "java/lang/AbstractStringBuilder" "count" "I" (.int cn)) (V_b : Arv Z h0 bf kb .byte (34 : Int32) (bs.map Value.int) (.int 0)) (hbl : bs.length = 34) (hcn : cn.toInt = (nn : Int)) (hn3 : nn ≤ 33) (hcs : ¬ cs = (0 : Int32)) (S_cs : Sta Z Z.heap "java/lang/String" "COMPACT_STRINGS" "Z" (.int cs)) :
  own_MF l Z own_y29 (Jvm.Cond.code own_y29 jdk_67_method_42_code 1 (some (.object "java/lang/String"))) [] own_r25 #[(.ref sb)] h0 (own_Q25 Z sb bf kb bs cn nn cs h0 n0) := by
 refine own_open (plainFor_of_name own_pn5) hisR (Ls := #[vr sb]) ?_
 intro p e s m below meth c s₁ Bd hZ hx hby hml hown X0 e0
 have N0 := Fr.nil n0
 obtain ⟨T1, h1, X1, e1, E1, A1, D1, U1, st1⟩ := newO X0 hx hZ hown (own_w hw 143 rfl) (own_w hw 39 rfl) (own_w hw 32 rfl) e0 (g := (mkF m 0 #[vr sb] [])) rfl (hb hby own_d25_0) (by decide) (by decide)
 obtain ⟨b1, g1⟩ : ∃ z, z = h0.size := ⟨_, rfl⟩
 rw [← g1] at A1 D1 U1 st1
 have sz1 : h0.size ≤ b1 := Nat.le_of_eq g1.symm
 have ne_sb_b1 : sb ≠ b1 := Nat.ne_of_lt (Nat.lt_of_lt_of_le E_b.lt sz1)
 have ne_bf_b1 : bf ≠ b1 := Nat.ne_of_lt (Nat.lt_of_lt_of_le V_b.lt sz1)
 have g_b1 : n0 ≤ b1 := Nat.le_trans Z0 sz1
 have hz_b1 : h0.size ≤ b1 := Nat.le_trans (Keep.refl h0 []).1 sz1
 have K1 : Keep h0 h1 [] := (Keep.refl h0 []).ext E1
 have Z1 : n0 ≤ h1.size := Nat.le_trans Z0 E1.1
 have O1 := O0.ext E1
 refine own_st (T' := T1) (g' := (mkF m 3 #[vr sb] [(.ref b1)])) st1 ?_
 refine own_st (T' := T1) (g' := (mkF m 5 #[vr sb] [(.ref sb), (.ref b1), (.ref b1)])) (fun t k => ?_) ?_
 ·refine XS.dup X1.here hx rfl (hb hby own_d25_3) rfl rfl ?_
  refine XS.aloadN X1.here hx rfl (hb hby own_d25_4) rfl rfl ?_
  exact k
 have f2 := E_b.ext E1
 have f3 := B_v.ext E1
 have f4 := B_c.ext E1
 have f5 := B_n.ext E1
 have f6 := V_b.ext E1
 obtain ⟨_, _, ⟨T7, L7, c7, n7⟩, -, X7, ⟨Lc7, hQ7, l7, y7, z7⟩, st7⟩ := X1.specialBack hx (y := own_y28) rfl hown (om hZ hw 144 rfl) (om hZ hw 145 rfl) (om hZ hw 147 rfl) (by decide) (backOf (W := 1) (own_rm26 l Z a0 hw b1 sb bf kb bs cn nn cs h1 n0 Z1 O1 A1 (D1 (Or.inr (own_w hw 40 rfl)) (ty := (.array .byte)) (by decide) : Fld Z h1 b1 "java/lang/String" "value" "[B" .null) (D1 (Or.inr (own_w hw 41 rfl)) (ty := .byte) (by decide) : Fld Z h1 b1 "java/lang/String" "coder" "B" (.int 0)) g_b1 f2 f3 f4 f5 f6 hbl hcn hn3 (Ne.symm ne_sb_b1) (Ne.symm ne_bf_b1) hcs S_cs) hZ (own_w hw 147 rfl) (own_w hw 32 rfl) (by decide) (by decide)) (g := (mkF m 5 #[vr sb] [(.ref sb), (.ref b1), (.ref b1)])) rfl (by rw [hml]; rfl) (Steps.refl _) (a := b1) (argsL := [(.ref sb)]) (rest := [(.ref b1)]) (lenOf own_pd18 rfl) rfl (by show 2 * 0 + _ ≤ _; exact Nat.le_of_eq rfl) (hb hby own_d25_5) (fun _ _ => ⟨rfl, e1, (by decide : 1 + 1 ≤ _), (by decide : 4 + 33 ≤ _)⟩)
 dsimp only [Pt.U, Pt.locs, Pt.cells, Pt.slots] at X7 l7 y7 z7 st7 hQ7
 subst l7 y7 z7
 obtain ⟨h7, e7⟩ : ∃ z, T7.heap = z := ⟨_, rfl⟩
 rw [e7] at hQ7
 obtain ⟨t7, k7, rfl, N7q, Kc7, g7, hz7, Fv7, Fo7, Vc7⟩ := hQ7
 have N7 := Fr.app N0 N7q
 have ne_sb_t7 : sb ≠ t7 := Nat.ne_of_lt (Nat.lt_of_lt_of_le f2.lt hz7)
 have ne_bf_t7 : bf ≠ t7 := Nat.ne_of_lt (Nat.lt_of_lt_of_le f6.lt hz7)
 have ne_b1_t7 : b1 ≠ t7 := Nat.ne_of_lt (Nat.lt_of_lt_of_le A1.lt hz7)
 have hwt7 : h0.size ≤ t7 := Nat.le_trans K1.1 hz7
 have K7 : Keep h0 h7 [] := K1.trans Kc7 (allS (Or.inr hz_b1) all0)
 have Z7 : n0 ≤ h7.size := Nat.le_trans Z1 Kc7.1
 have O7 := O1.keep Kc7 (allS g_b1 all0)
 refine own_tr (T' := T7) (g' := (mkF m 8 #[vr sb] [(.ref b1)])) st7 ?_
 have f8 := A1.keep Kc7
 exact own_retA X7 hx Bd rfl rfl (hb hby own_d25_8) e7 (⟨b1, t7, k7, rfl, N7, K7, g_b1, hz_b1, g7, hwt7, f8, Fv7, Fo7, Vc7⟩) (by decide) (by decide)
def own_r41 : Room := { frames := 0, cells := 0, slots := 0, locals := 0 }
def own_Q41 (Z : State) (ea : Addr) (kc : ClassId) (bs : List Int32) (ln : Int32) (av : Int64) (dv jx : Int32) (pv : Int64) (sv : Int32) (pp dn jn : Nat) (h0 : Heap) (n0 : Nat) : Option Value → Heap → List Loc → Prop := fun v h L => v = none ∧ Fr n0 L ∧ Keep h0 h [ea] ∧ Arv Z h ea kc .char ln ((own_put sv dn pp jn bs).map Value.int) (.int 0)
theorem own_rm41 (l : Launch) (Z : State) (a0 : Array Value) (hw : own_W a0 Z) (ea : Addr) (kc : ClassId) (bs : List Int32) (ln : Int32) (av : Int64) (dv jx : Int32) (pv : Int64) (sv : Int32) (pp dn jn : Nat) (h0 : Heap) (n0 : Nat) (Z0 : n0 ≤ h0.size) (V_e : Arv Z h0 ea kc .char ln (bs.map Value.int) (.int 0)) (g_e : n0 ≤ ea) (hbl : bs.length = pp) (hln : ln.toInt = (pp : Int)) (hp3 : pp ≤ 33) (hav : av.toInt = (own_n sv : Int)) (hdv : dv.toInt = (dn : Int)) (hjx : jx.toInt = (jn : Int)) (hpv : pv.toInt = ((10 ^ jn : Nat) : Int)) (hdp : dn ≤ pp) :
  own_MF l Z own_y30 (Jvm.Cond.code own_y30 method_4_code 8 none) [] own_r41 #[(.ref ea), (.int ln), (.long av), (.int dv), (.int jx), (.long pv)] h0 (own_Q41 Z ea kc bs ln av dv jx pv sv pp dn jn h0 n0) := by
 refine own_open (plainFor_of_name own_pn1) hisR (Ls := #[vr ea, vi ln, vl av, .second, vi dv, vi jx, vl pv, .second]) ?_
 intro p e s m below meth c s₁ Bd hZ hx hby hml hown X0 e0
 have N0 := Fr.nil n0
 refine own_st (T' := s₁) (g' := (mkF m 4 #[vr ea, vi ln, vl av, .second, vi dv, vi jx, vl pv, .second] [(.int dv), (.int jx)])) (fun t k => ?_) ?_
 ·refine XS.iload X0.here hx rfl (hb hby own_d41_0) rfl ?_
  refine XS.iload X0.here hx rfl (hb hby own_d41_2) rfl ?_
  exact k
 by_cases hlt : jx < dv
 ·have hjd := (own_ltN hjx hdv).mp hlt
  refine own_st (T' := s₁) (g' := (mkF m 27 #[vr ea, vi ln, vl av, .second, vi dv, vi jx, vl pv, .second] [(.int (((48 : Int32) + (((av / pv) - ((av / pv) / (10 : Int64)) * (10 : Int64)).toInt32)).toUInt32.toUInt16.toUInt32.toInt32)), (.int ((ln - (1 : Int32)) - jx)), (.ref ea)])) (fun t k => ?_) ?_
  ·refine XS.icmpNo X0.here hx rfl (hb hby own_d41_4) rfl (tlt hlt).2.1 ?_
   refine XS.aloadN X0.here hx rfl (hb hby own_d41_7) rfl rfl ?_
   refine XS.iloadN X0.here hx rfl (hb hby own_d41_8) rfl ?_
   refine XS.iconst X0.here hx rfl (hb hby own_d41_9) ?_
   refine XS.isub X0.here hx rfl (hb hby own_d41_10) rfl ?_
   refine XS.iload X0.here hx rfl (hb hby own_d41_11) rfl ?_
   refine XS.isub X0.here hx rfl (hb hby own_d41_13) rfl ?_
   refine XS.bipush X0.here hx rfl (hb hby own_d41_14) ?_
   refine XS.lloadN X0.here hx rfl (hb hby own_d41_16) rfl ?_
   refine XS.lload X0.here hx rfl (hb hby own_d41_17) rfl ?_
   refine XS.ldiv X0.here hx rfl (hb hby own_d41_19) rfl (own_pz hpv) ?_
   refine X0.ldc2Long hx hown (om hZ hw 213 rfl) (g := (mkF m 20 #[vr ea, vi ln, vl av, .second, vi dv, vi jx, vl pv, .second] [(.long (av / pv)), (.int 48), (.int ((ln - (1 : Int32)) - jx)), (.ref ea)])) rfl (hb hby own_d41_20) _ ?_
   refine XS.lrem X0.here hx rfl (hb hby own_d41_23) rfl (by decide) ?_
   refine XS.l2i X0.here hx rfl (hb hby own_d41_24) rfl ?_
   refine XS.iadd X0.here hx rfl (hb hby own_d41_25) rfl ?_
   refine XS.i2c X0.here hx rfl (hb hby own_d41_26) rfl ?_
   exact k
  rw [show (((48 : Int32) + (((av / pv) - ((av / pv) / (10 : Int64)) * (10 : Int64)).toInt32)).toUInt32.toUInt16.toUInt32.toInt32) = (own_dig sv jn) from own_pc hav hpv]
  obtain ⟨cl1, Ar1, q1, S1, M1, H1, G1⟩ := id V_e
  obtain ⟨T2, h2, X2, e2, W2, st2⟩ := stC X0 hx hZ e0 Ar1 (j := ((ln - (1 : Int32)) - jx)) (inb_of S1 (own_inp (own_ix hln hjx hp3 (by omega)) hln (by omega))) (g := (mkF m 27 #[vr ea, vi ln, vl av, .second, vi dv, vi jx, vl pv, .second] [(.int (own_dig sv jn)), (.int ((ln - (1 : Int32)) - jx)), (.ref ea)])) rfl rfl (hb hby own_d41_27)
  have N2 := Fr.snoc X2 N0 g_e
  have K2 : Keep h0 h2 [ea] := (Keep.refl h0 [ea]).wr W2 (Or.inl (List.mem_of_getElem? (i := 0) rfl))
  have Z2 : n0 ≤ h2.size := Nat.le_trans Z0 (Keep.of_wr W2).1
  have fw2 := (show Arv Z h2 ea kc .char ln ((bs.set (((ln - (1 : Int32)) - jx)).toNatClampNeg (own_dig sv jn)).map Value.int) (.int 0) by have q := Arv.set Ar1 q1 S1 M1 H1 G1 (fits_nar_char _) W2 ((((ln - (1 : Int32)) - jx)).toNatClampNeg) rfl (by rw [List.length_map, hbl, own_clamp (own_ix hln hjx hp3 (by omega))]; omega); rw [own_lset, own_dig_n sv jn] at q; exact q)
  refine own_st (T' := T2) (g' := (mkF m 28 #[vr ea, vi ln, vl av, .second, vi dv, vi jx, vl pv, .second] [])) st2 ?_
  exact own_retV X2 hx Bd (hb hby own_d41_28) e2 (⟨rfl, N2, K2, by rw [own_put, if_pos hjd, ← own_clamp (own_ix hln hjx hp3 (by omega))]; exact fw2⟩) (by decide) (by decide)
 ·refine own_st (T' := s₁) (g' := (mkF m 28 #[vr ea, vi ln, vl av, .second, vi dv, vi jx, vl pv, .second] [])) (fun t k => ?_) ?_
  ·refine XS.icmpYes X0.here hx rfl (pc0 := 4) (pc' := 28) rfl (hb hby own_d41_4) rfl (flt hlt).2.1 (by decide) (by decide) ?_
   exact k
  exact own_retV X0 hx Bd (hb hby own_d41_28) e0 (⟨rfl, N0, (Keep.refl h0 [ea]), by rw [own_put, if_neg (fun q => hlt ((own_ltN hjx hdv).mpr q))]; exact V_e⟩) (by decide) (by decide)
def own_r39 : Room := { frames := 4, cells := 3, slots := 70, locals := 66 }
def own_Q39 (Z : State) (sv : Int32) (cs : Int32) (h0 : Heap) (n0 : Nat) : Option Value → Heap → List Loc → Prop := fun v h L => ∃ x t k, v = some (.ref x) ∧ Fr n0 L ∧ Keep h0 h [] ∧ Exa Z h x "java/lang/String" ∧ Fld Z h x "java/lang/String" "coder" "B" (.int 0) ∧ Fld Z h x "java/lang/String" "value" "[B" (.ref t) ∧ Arv Z h t k .byte (own_L sv) (((own_exp sv).map fun c => c.toInt8.toInt32).map Value.int) (.int 0)
theorem own_rm39 (l : Launch) (Z : State) (a0 : Array Value) (hw : own_W a0 Z) (sv : Int32) (cs : Int32) (h0 : Heap) (n0 : Nat) (Z0 : n0 ≤ h0.size) (O0 : Old Z n0 h0) (hcs : ¬ cs = (0 : Int32)) (S_cs : Sta Z Z.heap "java/lang/String" "COMPACT_STRINGS" "Z" (.int cs)) :
  own_MF l Z own_y31 (Jvm.Cond.code own_y31 method_5_code 7 (some (.object "java/lang/String"))) [] own_r39 #[(.int sv)] h0 (own_Q39 Z sv cs h0 n0) := by
 refine own_open (plainFor_of_name own_pn1) hisR (Ls := #[vi sv, .unset, .unset, .unset, .unset, .unset, .unset]) ?_
 intro p e s m below meth c s₁ Bd hZ hx hby hml hown X0 e0
 have N0 := Fr.nil n0
 have hwv : ∀ d ∈ StrChars.Road.words, d.before a0 Z = true := fun d hd => hw d (own_wordsV d hd)
 refine own_st (T' := s₁) (g' := (mkF m 1 #[vi sv, .unset, .unset, .unset, .unset, .unset, .unset] [(.int sv)])) (fun t k => ?_) ?_
 ·refine XS.iloadN X0.here hx rfl (hb hby own_d39_0) rfl ?_
  exact k
 by_cases hneg : sv < (0 : Int32)
 ·refine own_st (T' := s₁) (g' := (mkF m 24 #[vi sv, vi 1, vl (-(sv.toInt64)), .second, .unset, .unset, .unset] [(.long (-(sv.toInt64)))])) (fun t k => ?_) ?_
  ·refine XS.ifNo X0.here hx rfl (hb hby own_d39_1) rfl ((if0 _ _).trans (tlt hneg).2.1) ?_
   refine XS.iconst X0.here hx rfl (hb hby own_d39_4) ?_
   refine XS.goto X0.here hx rfl (pc0 := 5) (pc' := 9) rfl (hb hby own_d39_5) (by decide) (by decide) ?_
   refine XS.istoreN X0.here hx rfl (hb hby own_d39_9) rfl (l' := #[vi sv, vi 1, .unset, .unset, .unset, .unset, .unset]) rfl ?_
   refine XS.iloadN X0.here hx rfl (hb hby own_d39_10) rfl ?_
   refine XS.ifNo X0.here hx rfl (hb hby own_d39_11) rfl ((if0 _ _).trans (feq (by decide : ¬ ((1 : Int32) = (0 : Int32)))).1) ?_
   refine XS.iloadN X0.here hx rfl (hb hby own_d39_14) rfl ?_
   refine XS.i2l X0.here hx rfl (hb hby own_d39_15) rfl ?_
   refine XS.lneg X0.here hx rfl (hb hby own_d39_16) rfl ?_
   refine XS.goto X0.here hx rfl (pc0 := 17) (pc' := 22) rfl (hb hby own_d39_17) (by decide) (by decide) ?_
   refine XS.lstoreN X0.here hx rfl (hb hby own_d39_22) rfl (l' := #[vi sv, vi 1, vl (-(sv.toInt64)), .second, .unset, .unset, .unset]) rfl ?_
   refine XS.lloadN X0.here hx rfl (hb hby own_d39_23) rfl ?_
   exact k
  obtain ⟨_, _, ⟨T1, L1, c1, n1⟩, -, X1, ⟨Lc1, hQ1, l1, y1, z1⟩, st1⟩ := Jvm.LawKit.callS X0 hx (y := own_y2) hown (om hZ hw 210 rfl) (om hZ hw 211 rfl) (om hZ hw 208 rfl) (om hZ hw 212 rfl) (by decide) (backOf (W := 0) (own_rm40 l Z a0 hw (-(sv.toInt64)) (own_n sv) h0 n0 Z0 (own_av1 hneg)) hZ (own_w hw 212 rfl) (own_w hw 208 rfl) (by decide) (by decide)) (g := (mkF m 24 #[vi sv, vi 1, vl (-(sv.toInt64)), .second, .unset, .unset, .unset] [(.long (-(sv.toInt64)))])) rfl (by rw [hml]; rfl) (argsL := [(.long (-(sv.toInt64)))]) (rest := []) (lenOf own_pd19 rfl) rfl (by show 2 * 0 + _ ≤ _; exact Nat.le_of_eq rfl) (hb hby own_d39_24) (fun _ _ => ⟨rfl, e0, (by decide : 0 + 0 ≤ _), (by decide : 0 + 0 ≤ _)⟩)
  dsimp only [Pt.U, Pt.locs, Pt.cells, Pt.slots] at X1 l1 y1 z1 st1 hQ1
  subst l1 y1 z1
  obtain ⟨rfl, N1q, e1⟩ := hQ1
  have N1 := Fr.app N0 N1q
  refine own_st (T' := T1) (g' := (mkF m 27 #[vi sv, vi 1, vl (-(sv.toInt64)), .second, .unset, .unset, .unset] [(.int (Int32.ofNat (own_nd (own_n sv))))])) st1 ?_
  refine own_st (T' := T1) (g' := (mkF m 44 #[vi sv, vi 1, vl (-(sv.toInt64)), .second, vi (Int32.ofNat (own_nd (own_n sv))), .unset, .unset] [(.int ((23 : Int32) + (Int32.ofNat (own_nd (own_n sv)))))])) (fun t k => ?_) ?_
  ·refine XS.istore X1.here hx rfl (hb hby own_d39_27) rfl (l' := #[vi sv, vi 1, vl (-(sv.toInt64)), .second, vi (Int32.ofNat (own_nd (own_n sv))), .unset, .unset]) rfl ?_
   refine XS.bipush X1.here hx rfl (hb hby own_d39_29) ?_
   refine XS.iloadN X1.here hx rfl (hb hby own_d39_31) rfl ?_
   refine XS.ifNo X1.here hx rfl (hb hby own_d39_32) rfl ((if0 _ _).trans (feq (by decide : ¬ ((1 : Int32) = (0 : Int32)))).1) ?_
   refine XS.iconst X1.here hx rfl (hb hby own_d39_35) ?_
   refine XS.goto X1.here hx rfl (pc0 := 36) (pc' := 40) rfl (hb hby own_d39_36) (by decide) (by decide) ?_
   refine XS.iadd X1.here hx rfl (hb hby own_d39_40) rfl ?_
   refine XS.iload X1.here hx rfl (hb hby own_d39_41) rfl ?_
   refine XS.iadd X1.here hx rfl (hb hby own_d39_43) rfl ?_
   exact k
  rw [show ((23 : Int32) + (Int32.ofNat (own_nd (own_n sv)))) = (own_L sv) from own_23 hneg]
  refine own_st (T' := T1) (g' := (mkF m 48 #[vi sv, vi 1, vl (-(sv.toInt64)), .second, vi (Int32.ofNat (own_nd (own_n sv))), vi (own_L sv), .unset] [(.int (own_L sv))])) (fun t k => ?_) ?_
  ·refine XS.istore X1.here hx rfl (hb hby own_d39_44) rfl (l' := #[vi sv, vi 1, vl (-(sv.toInt64)), .second, vi (Int32.ofNat (own_nd (own_n sv))), vi (own_L sv), .unset]) rfl ?_
   refine XS.iload X1.here hx rfl (hb hby own_d39_46) rfl ?_
   exact k
  obtain ⟨T2, h2, k2, X2, e2, E2, A2, st2⟩ := newP X1 hx hZ (own_w hw 214 rfl) e1 (g := (mkF m 48 #[vi sv, vi 1, vl (-(sv.toInt64)), .second, vi (Int32.ofNat (own_nd (own_n sv))), vi (own_L sv), .unset] [(.int (own_L sv))])) rfl (hb hby own_d39_48) rfl (own_L0 sv) (cap := 33) (own_L33 sv) (by decide) (by decide) (by decide)
  obtain ⟨b2, g2⟩ : ∃ z, z = h0.size := ⟨_, rfl⟩
  rw [← g2] at A2 st2
  have sz2 : h0.size ≤ b2 := Nat.le_of_eq g2.symm
  have g_b2 : n0 ≤ b2 := Nat.le_trans Z0 sz2
  have hz_b2 : h0.size ≤ b2 := Nat.le_trans (Keep.refl h0 []).1 sz2
  have K2 : Keep h0 h2 [] := (Keep.refl h0 []).ext E2
  have Z2 : n0 ≤ h2.size := Nat.le_trans Z0 E2.1
  have O2 := O0.ext E2
  have V2 : Arv Z h2 b2 k2 .char (own_L sv) [] (.int 0) := Arv.new A2 (own_L0 sv)
  refine own_st (T' := T2) (g' := (mkF m 50 #[vi sv, vi 1, vl (-(sv.toInt64)), .second, vi (Int32.ofNat (own_nd (own_n sv))), vi (own_L sv), .unset] [(.ref b2)])) st2 ?_
  have Vp2 := own_lpad (own_tl sv) V2
  have Vx2 : Arv Z h2 b2 k2 .char (own_L sv) ((own_ex (own_tl sv) 0).map Value.int) (.int 0) := Vp2
  refine own_st (T' := T2) (g' := (mkF m 57 #[vi sv, vi 1, vl (-(sv.toInt64)), .second, vi (Int32.ofNat (own_nd (own_n sv))), vi (own_L sv), vr b2] [(.int 116), (.int 0), (.ref b2)])) (fun t k => ?_) ?_
  ·refine XS.astore X2.here hx rfl (hb hby own_d39_50) rfl rfl (l' := #[vi sv, vi 1, vl (-(sv.toInt64)), .second, vi (Int32.ofNat (own_nd (own_n sv))), vi (own_L sv), vr b2]) rfl ?_
   refine XS.aload X2.here hx rfl (hb hby own_d39_52) rfl rfl ?_
   refine XS.iconst X2.here hx rfl (hb hby own_d39_54) ?_
   refine XS.bipush X2.here hx rfl (hb hby own_d39_55) ?_
   exact k
  obtain ⟨cl3, Ar3, q3, S3, M3, H3, G3⟩ := id Vx2
  obtain ⟨T4, h4, X4, e4, W4, st4⟩ := stC X2 hx hZ e2 Ar3 (j := (0 : Int32)) (inb_of S3 (own_inx sv (by decide) (by decide))) (g := (mkF m 57 #[vi sv, vi 1, vl (-(sv.toInt64)), .second, vi (Int32.ofNat (own_nd (own_n sv))), vi (own_L sv), vr b2] [(.int 116), (.int 0), (.ref b2)])) rfl rfl (hb hby own_d39_57)
  have N4 := Fr.snoc X4 N1 g_b2
  have K4 : Keep h0 h4 [] := K2.wr W4 (Or.inr hz_b2)
  have Z4 : n0 ≤ h4.size := Nat.le_trans Z2 (Keep.of_wr W4).1
  have O4 := O2.wr W4 g_b2
  have fw4 := (show Arv Z h4 b2 k2 .char (own_L sv) (((own_ex (own_tl sv) 0).set ((0 : Int32)).toNatClampNeg (116 : Int32)).map Value.int) (.int 0) by have q := Arv.set Ar3 q3 S3 M3 H3 G3 (fits_nar_char _) W4 (((0 : Int32)).toNatClampNeg) rfl (own_lx sv (own_ex_len _ _) (by decide)); rw [own_lset] at q; exact q)
  rw [own_xs0] at fw4
  refine own_st (T' := T4) (g' := (mkF m 58 #[vi sv, vi 1, vl (-(sv.toInt64)), .second, vi (Int32.ofNat (own_nd (own_n sv))), vi (own_L sv), vr b2] [])) st4 ?_
  refine own_st (T' := T4) (g' := (mkF m 63 #[vi sv, vi 1, vl (-(sv.toInt64)), .second, vi (Int32.ofNat (own_nd (own_n sv))), vi (own_L sv), vr b2] [(.int 104), (.int 1), (.ref b2)])) (fun t k => ?_) ?_
  ·refine XS.aload X4.here hx rfl (hb hby own_d39_58) rfl rfl ?_
   refine XS.iconst X4.here hx rfl (hb hby own_d39_60) ?_
   refine XS.bipush X4.here hx rfl (hb hby own_d39_61) ?_
   exact k
  obtain ⟨cl5, Ar5, q5, S5, M5, H5, G5⟩ := id fw4
  obtain ⟨T6, h6, X6, e6, W6, st6⟩ := stC X4 hx hZ e4 Ar5 (j := (1 : Int32)) (inb_of S5 (own_inx sv (by decide) (by decide))) (g := (mkF m 63 #[vi sv, vi 1, vl (-(sv.toInt64)), .second, vi (Int32.ofNat (own_nd (own_n sv))), vi (own_L sv), vr b2] [(.int 104), (.int 1), (.ref b2)])) rfl rfl (hb hby own_d39_63)
  have N6 := Fr.snoc X6 N4 g_b2
  have K6 : Keep h0 h6 [] := K4.wr W6 (Or.inr hz_b2)
  have Z6 : n0 ≤ h6.size := Nat.le_trans Z4 (Keep.of_wr W6).1
  have O6 := O4.wr W6 g_b2
  have fw6 := (show Arv Z h6 b2 k2 .char (own_L sv) (((own_ex (own_tl sv) 1).set ((1 : Int32)).toNatClampNeg (104 : Int32)).map Value.int) (.int 0) by have q := Arv.set Ar5 q5 S5 M5 H5 G5 (fits_nar_char _) W6 (((1 : Int32)).toNatClampNeg) rfl (own_lx sv (own_ex_len _ _) (by decide)); rw [own_lset] at q; exact q)
  rw [own_xs1] at fw6
  refine own_st (T' := T6) (g' := (mkF m 64 #[vi sv, vi 1, vl (-(sv.toInt64)), .second, vi (Int32.ofNat (own_nd (own_n sv))), vi (own_L sv), vr b2] [])) st6 ?_
  refine own_st (T' := T6) (g' := (mkF m 69 #[vi sv, vi 1, vl (-(sv.toInt64)), .second, vi (Int32.ofNat (own_nd (own_n sv))), vi (own_L sv), vr b2] [(.int 101), (.int 2), (.ref b2)])) (fun t k => ?_) ?_
  ·refine XS.aload X6.here hx rfl (hb hby own_d39_64) rfl rfl ?_
   refine XS.iconst X6.here hx rfl (hb hby own_d39_66) ?_
   refine XS.bipush X6.here hx rfl (hb hby own_d39_67) ?_
   exact k
  obtain ⟨cl7, Ar7, q7, S7, M7, H7, G7⟩ := id fw6
  obtain ⟨T8, h8, X8, e8, W8, st8⟩ := stC X6 hx hZ e6 Ar7 (j := (2 : Int32)) (inb_of S7 (own_inx sv (by decide) (by decide))) (g := (mkF m 69 #[vi sv, vi 1, vl (-(sv.toInt64)), .second, vi (Int32.ofNat (own_nd (own_n sv))), vi (own_L sv), vr b2] [(.int 101), (.int 2), (.ref b2)])) rfl rfl (hb hby own_d39_69)
  have N8 := Fr.snoc X8 N6 g_b2
  have K8 : Keep h0 h8 [] := K6.wr W8 (Or.inr hz_b2)
  have Z8 : n0 ≤ h8.size := Nat.le_trans Z6 (Keep.of_wr W8).1
  have O8 := O6.wr W8 g_b2
  have fw8 := (show Arv Z h8 b2 k2 .char (own_L sv) (((own_ex (own_tl sv) 2).set ((2 : Int32)).toNatClampNeg (101 : Int32)).map Value.int) (.int 0) by have q := Arv.set Ar7 q7 S7 M7 H7 G7 (fits_nar_char _) W8 (((2 : Int32)).toNatClampNeg) rfl (own_lx sv (own_ex_len _ _) (by decide)); rw [own_lset] at q; exact q)
  rw [own_xs2] at fw8
  refine own_st (T' := T8) (g' := (mkF m 70 #[vi sv, vi 1, vl (-(sv.toInt64)), .second, vi (Int32.ofNat (own_nd (own_n sv))), vi (own_L sv), vr b2] [])) st8 ?_
  refine own_st (T' := T8) (g' := (mkF m 75 #[vi sv, vi 1, vl (-(sv.toInt64)), .second, vi (Int32.ofNat (own_nd (own_n sv))), vi (own_L sv), vr b2] [(.int 32), (.int 3), (.ref b2)])) (fun t k => ?_) ?_
  ·refine XS.aload X8.here hx rfl (hb hby own_d39_70) rfl rfl ?_
   refine XS.iconst X8.here hx rfl (hb hby own_d39_72) ?_
   refine XS.bipush X8.here hx rfl (hb hby own_d39_73) ?_
   exact k
  obtain ⟨cl9, Ar9, q9, S9, M9, H9, G9⟩ := id fw8
  obtain ⟨T10, h10, X10, e10, W10, st10⟩ := stC X8 hx hZ e8 Ar9 (j := (3 : Int32)) (inb_of S9 (own_inx sv (by decide) (by decide))) (g := (mkF m 75 #[vi sv, vi 1, vl (-(sv.toInt64)), .second, vi (Int32.ofNat (own_nd (own_n sv))), vi (own_L sv), vr b2] [(.int 32), (.int 3), (.ref b2)])) rfl rfl (hb hby own_d39_75)
  have N10 := Fr.snoc X10 N8 g_b2
  have K10 : Keep h0 h10 [] := K8.wr W10 (Or.inr hz_b2)
  have Z10 : n0 ≤ h10.size := Nat.le_trans Z8 (Keep.of_wr W10).1
  have O10 := O8.wr W10 g_b2
  have fw10 := (show Arv Z h10 b2 k2 .char (own_L sv) (((own_ex (own_tl sv) 3).set ((3 : Int32)).toNatClampNeg (32 : Int32)).map Value.int) (.int 0) by have q := Arv.set Ar9 q9 S9 M9 H9 G9 (fits_nar_char _) W10 (((3 : Int32)).toNatClampNeg) rfl (own_lx sv (own_ex_len _ _) (by decide)); rw [own_lset] at q; exact q)
  rw [own_xs3] at fw10
  refine own_st (T' := T10) (g' := (mkF m 76 #[vi sv, vi 1, vl (-(sv.toInt64)), .second, vi (Int32.ofNat (own_nd (own_n sv))), vi (own_L sv), vr b2] [])) st10 ?_
  refine own_st (T' := T10) (g' := (mkF m 81 #[vi sv, vi 1, vl (-(sv.toInt64)), .second, vi (Int32.ofNat (own_nd (own_n sv))), vi (own_L sv), vr b2] [(.int 114), (.int 4), (.ref b2)])) (fun t k => ?_) ?_
  ·refine XS.aload X10.here hx rfl (hb hby own_d39_76) rfl rfl ?_
   refine XS.iconst X10.here hx rfl (hb hby own_d39_78) ?_
   refine XS.bipush X10.here hx rfl (hb hby own_d39_79) ?_
   exact k
  obtain ⟨cl11, Ar11, q11, S11, M11, H11, G11⟩ := id fw10
  obtain ⟨T12, h12, X12, e12, W12, st12⟩ := stC X10 hx hZ e10 Ar11 (j := (4 : Int32)) (inb_of S11 (own_inx sv (by decide) (by decide))) (g := (mkF m 81 #[vi sv, vi 1, vl (-(sv.toInt64)), .second, vi (Int32.ofNat (own_nd (own_n sv))), vi (own_L sv), vr b2] [(.int 114), (.int 4), (.ref b2)])) rfl rfl (hb hby own_d39_81)
  have N12 := Fr.snoc X12 N10 g_b2
  have K12 : Keep h0 h12 [] := K10.wr W12 (Or.inr hz_b2)
  have Z12 : n0 ≤ h12.size := Nat.le_trans Z10 (Keep.of_wr W12).1
  have O12 := O10.wr W12 g_b2
  have fw12 := (show Arv Z h12 b2 k2 .char (own_L sv) (((own_ex (own_tl sv) 4).set ((4 : Int32)).toNatClampNeg (114 : Int32)).map Value.int) (.int 0) by have q := Arv.set Ar11 q11 S11 M11 H11 G11 (fits_nar_char _) W12 (((4 : Int32)).toNatClampNeg) rfl (own_lx sv (own_ex_len _ _) (by decide)); rw [own_lset] at q; exact q)
  rw [own_xs4] at fw12
  refine own_st (T' := T12) (g' := (mkF m 82 #[vi sv, vi 1, vl (-(sv.toInt64)), .second, vi (Int32.ofNat (own_nd (own_n sv))), vi (own_L sv), vr b2] [])) st12 ?_
  refine own_st (T' := T12) (g' := (mkF m 87 #[vi sv, vi 1, vl (-(sv.toInt64)), .second, vi (Int32.ofNat (own_nd (own_n sv))), vi (own_L sv), vr b2] [(.int 101), (.int 5), (.ref b2)])) (fun t k => ?_) ?_
  ·refine XS.aload X12.here hx rfl (hb hby own_d39_82) rfl rfl ?_
   refine XS.iconst X12.here hx rfl (hb hby own_d39_84) ?_
   refine XS.bipush X12.here hx rfl (hb hby own_d39_85) ?_
   exact k
  obtain ⟨cl13, Ar13, q13, S13, M13, H13, G13⟩ := id fw12
  obtain ⟨T14, h14, X14, e14, W14, st14⟩ := stC X12 hx hZ e12 Ar13 (j := (5 : Int32)) (inb_of S13 (own_inx sv (by decide) (by decide))) (g := (mkF m 87 #[vi sv, vi 1, vl (-(sv.toInt64)), .second, vi (Int32.ofNat (own_nd (own_n sv))), vi (own_L sv), vr b2] [(.int 101), (.int 5), (.ref b2)])) rfl rfl (hb hby own_d39_87)
  have N14 := Fr.snoc X14 N12 g_b2
  have K14 : Keep h0 h14 [] := K12.wr W14 (Or.inr hz_b2)
  have Z14 : n0 ≤ h14.size := Nat.le_trans Z12 (Keep.of_wr W14).1
  have O14 := O12.wr W14 g_b2
  have fw14 := (show Arv Z h14 b2 k2 .char (own_L sv) (((own_ex (own_tl sv) 5).set ((5 : Int32)).toNatClampNeg (101 : Int32)).map Value.int) (.int 0) by have q := Arv.set Ar13 q13 S13 M13 H13 G13 (fits_nar_char _) W14 (((5 : Int32)).toNatClampNeg) rfl (own_lx sv (own_ex_len _ _) (by decide)); rw [own_lset] at q; exact q)
  rw [own_xs5] at fw14
  refine own_st (T' := T14) (g' := (mkF m 88 #[vi sv, vi 1, vl (-(sv.toInt64)), .second, vi (Int32.ofNat (own_nd (own_n sv))), vi (own_L sv), vr b2] [])) st14 ?_
  refine own_st (T' := T14) (g' := (mkF m 94 #[vi sv, vi 1, vl (-(sv.toInt64)), .second, vi (Int32.ofNat (own_nd (own_n sv))), vi (own_L sv), vr b2] [(.int 99), (.int 6), (.ref b2)])) (fun t k => ?_) ?_
  ·refine XS.aload X14.here hx rfl (hb hby own_d39_88) rfl rfl ?_
   refine XS.bipush X14.here hx rfl (hb hby own_d39_90) ?_
   refine XS.bipush X14.here hx rfl (hb hby own_d39_92) ?_
   exact k
  obtain ⟨cl15, Ar15, q15, S15, M15, H15, G15⟩ := id fw14
  obtain ⟨T16, h16, X16, e16, W16, st16⟩ := stC X14 hx hZ e14 Ar15 (j := (6 : Int32)) (inb_of S15 (own_inx sv (by decide) (by decide))) (g := (mkF m 94 #[vi sv, vi 1, vl (-(sv.toInt64)), .second, vi (Int32.ofNat (own_nd (own_n sv))), vi (own_L sv), vr b2] [(.int 99), (.int 6), (.ref b2)])) rfl rfl (hb hby own_d39_94)
  have N16 := Fr.snoc X16 N14 g_b2
  have K16 : Keep h0 h16 [] := K14.wr W16 (Or.inr hz_b2)
  have Z16 : n0 ≤ h16.size := Nat.le_trans Z14 (Keep.of_wr W16).1
  have O16 := O14.wr W16 g_b2
  have fw16 := (show Arv Z h16 b2 k2 .char (own_L sv) (((own_ex (own_tl sv) 6).set ((6 : Int32)).toNatClampNeg (99 : Int32)).map Value.int) (.int 0) by have q := Arv.set Ar15 q15 S15 M15 H15 G15 (fits_nar_char _) W16 (((6 : Int32)).toNatClampNeg) rfl (own_lx sv (own_ex_len _ _) (by decide)); rw [own_lset] at q; exact q)
  rw [own_xs6] at fw16
  refine own_st (T' := T16) (g' := (mkF m 95 #[vi sv, vi 1, vl (-(sv.toInt64)), .second, vi (Int32.ofNat (own_nd (own_n sv))), vi (own_L sv), vr b2] [])) st16 ?_
  refine own_st (T' := T16) (g' := (mkF m 101 #[vi sv, vi 1, vl (-(sv.toInt64)), .second, vi (Int32.ofNat (own_nd (own_n sv))), vi (own_L sv), vr b2] [(.int 101), (.int 7), (.ref b2)])) (fun t k => ?_) ?_
  ·refine XS.aload X16.here hx rfl (hb hby own_d39_95) rfl rfl ?_
   refine XS.bipush X16.here hx rfl (hb hby own_d39_97) ?_
   refine XS.bipush X16.here hx rfl (hb hby own_d39_99) ?_
   exact k
  obtain ⟨cl17, Ar17, q17, S17, M17, H17, G17⟩ := id fw16
  obtain ⟨T18, h18, X18, e18, W18, st18⟩ := stC X16 hx hZ e16 Ar17 (j := (7 : Int32)) (inb_of S17 (own_inx sv (by decide) (by decide))) (g := (mkF m 101 #[vi sv, vi 1, vl (-(sv.toInt64)), .second, vi (Int32.ofNat (own_nd (own_n sv))), vi (own_L sv), vr b2] [(.int 101), (.int 7), (.ref b2)])) rfl rfl (hb hby own_d39_101)
  have N18 := Fr.snoc X18 N16 g_b2
  have K18 : Keep h0 h18 [] := K16.wr W18 (Or.inr hz_b2)
  have Z18 : n0 ≤ h18.size := Nat.le_trans Z16 (Keep.of_wr W18).1
  have O18 := O16.wr W18 g_b2
  have fw18 := (show Arv Z h18 b2 k2 .char (own_L sv) (((own_ex (own_tl sv) 7).set ((7 : Int32)).toNatClampNeg (101 : Int32)).map Value.int) (.int 0) by have q := Arv.set Ar17 q17 S17 M17 H17 G17 (fits_nar_char _) W18 (((7 : Int32)).toNatClampNeg) rfl (own_lx sv (own_ex_len _ _) (by decide)); rw [own_lset] at q; exact q)
  rw [own_xs7] at fw18
  refine own_st (T' := T18) (g' := (mkF m 102 #[vi sv, vi 1, vl (-(sv.toInt64)), .second, vi (Int32.ofNat (own_nd (own_n sv))), vi (own_L sv), vr b2] [])) st18 ?_
  refine own_st (T' := T18) (g' := (mkF m 108 #[vi sv, vi 1, vl (-(sv.toInt64)), .second, vi (Int32.ofNat (own_nd (own_n sv))), vi (own_L sv), vr b2] [(.int 105), (.int 8), (.ref b2)])) (fun t k => ?_) ?_
  ·refine XS.aload X18.here hx rfl (hb hby own_d39_102) rfl rfl ?_
   refine XS.bipush X18.here hx rfl (hb hby own_d39_104) ?_
   refine XS.bipush X18.here hx rfl (hb hby own_d39_106) ?_
   exact k
  obtain ⟨cl19, Ar19, q19, S19, M19, H19, G19⟩ := id fw18
  obtain ⟨T20, h20, X20, e20, W20, st20⟩ := stC X18 hx hZ e18 Ar19 (j := (8 : Int32)) (inb_of S19 (own_inx sv (by decide) (by decide))) (g := (mkF m 108 #[vi sv, vi 1, vl (-(sv.toInt64)), .second, vi (Int32.ofNat (own_nd (own_n sv))), vi (own_L sv), vr b2] [(.int 105), (.int 8), (.ref b2)])) rfl rfl (hb hby own_d39_108)
  have N20 := Fr.snoc X20 N18 g_b2
  have K20 : Keep h0 h20 [] := K18.wr W20 (Or.inr hz_b2)
  have Z20 : n0 ≤ h20.size := Nat.le_trans Z18 (Keep.of_wr W20).1
  have O20 := O18.wr W20 g_b2
  have fw20 := (show Arv Z h20 b2 k2 .char (own_L sv) (((own_ex (own_tl sv) 8).set ((8 : Int32)).toNatClampNeg (105 : Int32)).map Value.int) (.int 0) by have q := Arv.set Ar19 q19 S19 M19 H19 G19 (fits_nar_char _) W20 (((8 : Int32)).toNatClampNeg) rfl (own_lx sv (own_ex_len _ _) (by decide)); rw [own_lset] at q; exact q)
  rw [own_xs8] at fw20
  refine own_st (T' := T20) (g' := (mkF m 109 #[vi sv, vi 1, vl (-(sv.toInt64)), .second, vi (Int32.ofNat (own_nd (own_n sv))), vi (own_L sv), vr b2] [])) st20 ?_
  refine own_st (T' := T20) (g' := (mkF m 115 #[vi sv, vi 1, vl (-(sv.toInt64)), .second, vi (Int32.ofNat (own_nd (own_n sv))), vi (own_L sv), vr b2] [(.int 118), (.int 9), (.ref b2)])) (fun t k => ?_) ?_
  ·refine XS.aload X20.here hx rfl (hb hby own_d39_109) rfl rfl ?_
   refine XS.bipush X20.here hx rfl (hb hby own_d39_111) ?_
   refine XS.bipush X20.here hx rfl (hb hby own_d39_113) ?_
   exact k
  obtain ⟨cl21, Ar21, q21, S21, M21, H21, G21⟩ := id fw20
  obtain ⟨T22, h22, X22, e22, W22, st22⟩ := stC X20 hx hZ e20 Ar21 (j := (9 : Int32)) (inb_of S21 (own_inx sv (by decide) (by decide))) (g := (mkF m 115 #[vi sv, vi 1, vl (-(sv.toInt64)), .second, vi (Int32.ofNat (own_nd (own_n sv))), vi (own_L sv), vr b2] [(.int 118), (.int 9), (.ref b2)])) rfl rfl (hb hby own_d39_115)
  have N22 := Fr.snoc X22 N20 g_b2
  have K22 : Keep h0 h22 [] := K20.wr W22 (Or.inr hz_b2)
  have Z22 : n0 ≤ h22.size := Nat.le_trans Z20 (Keep.of_wr W22).1
  have O22 := O20.wr W22 g_b2
  have fw22 := (show Arv Z h22 b2 k2 .char (own_L sv) (((own_ex (own_tl sv) 9).set ((9 : Int32)).toNatClampNeg (118 : Int32)).map Value.int) (.int 0) by have q := Arv.set Ar21 q21 S21 M21 H21 G21 (fits_nar_char _) W22 (((9 : Int32)).toNatClampNeg) rfl (own_lx sv (own_ex_len _ _) (by decide)); rw [own_lset] at q; exact q)
  rw [own_xs9] at fw22
  refine own_st (T' := T22) (g' := (mkF m 116 #[vi sv, vi 1, vl (-(sv.toInt64)), .second, vi (Int32.ofNat (own_nd (own_n sv))), vi (own_L sv), vr b2] [])) st22 ?_
  refine own_st (T' := T22) (g' := (mkF m 122 #[vi sv, vi 1, vl (-(sv.toInt64)), .second, vi (Int32.ofNat (own_nd (own_n sv))), vi (own_L sv), vr b2] [(.int 101), (.int 10), (.ref b2)])) (fun t k => ?_) ?_
  ·refine XS.aload X22.here hx rfl (hb hby own_d39_116) rfl rfl ?_
   refine XS.bipush X22.here hx rfl (hb hby own_d39_118) ?_
   refine XS.bipush X22.here hx rfl (hb hby own_d39_120) ?_
   exact k
  obtain ⟨cl23, Ar23, q23, S23, M23, H23, G23⟩ := id fw22
  obtain ⟨T24, h24, X24, e24, W24, st24⟩ := stC X22 hx hZ e22 Ar23 (j := (10 : Int32)) (inb_of S23 (own_inx sv (by decide) (by decide))) (g := (mkF m 122 #[vi sv, vi 1, vl (-(sv.toInt64)), .second, vi (Int32.ofNat (own_nd (own_n sv))), vi (own_L sv), vr b2] [(.int 101), (.int 10), (.ref b2)])) rfl rfl (hb hby own_d39_122)
  have N24 := Fr.snoc X24 N22 g_b2
  have K24 : Keep h0 h24 [] := K22.wr W24 (Or.inr hz_b2)
  have Z24 : n0 ≤ h24.size := Nat.le_trans Z22 (Keep.of_wr W24).1
  have O24 := O22.wr W24 g_b2
  have fw24 := (show Arv Z h24 b2 k2 .char (own_L sv) (((own_ex (own_tl sv) 10).set ((10 : Int32)).toNatClampNeg (101 : Int32)).map Value.int) (.int 0) by have q := Arv.set Ar23 q23 S23 M23 H23 G23 (fits_nar_char _) W24 (((10 : Int32)).toNatClampNeg) rfl (own_lx sv (own_ex_len _ _) (by decide)); rw [own_lset] at q; exact q)
  rw [own_xs10] at fw24
  refine own_st (T' := T24) (g' := (mkF m 123 #[vi sv, vi 1, vl (-(sv.toInt64)), .second, vi (Int32.ofNat (own_nd (own_n sv))), vi (own_L sv), vr b2] [])) st24 ?_
  refine own_st (T' := T24) (g' := (mkF m 129 #[vi sv, vi 1, vl (-(sv.toInt64)), .second, vi (Int32.ofNat (own_nd (own_n sv))), vi (own_L sv), vr b2] [(.int 114), (.int 11), (.ref b2)])) (fun t k => ?_) ?_
  ·refine XS.aload X24.here hx rfl (hb hby own_d39_123) rfl rfl ?_
   refine XS.bipush X24.here hx rfl (hb hby own_d39_125) ?_
   refine XS.bipush X24.here hx rfl (hb hby own_d39_127) ?_
   exact k
  obtain ⟨cl25, Ar25, q25, S25, M25, H25, G25⟩ := id fw24
  obtain ⟨T26, h26, X26, e26, W26, st26⟩ := stC X24 hx hZ e24 Ar25 (j := (11 : Int32)) (inb_of S25 (own_inx sv (by decide) (by decide))) (g := (mkF m 129 #[vi sv, vi 1, vl (-(sv.toInt64)), .second, vi (Int32.ofNat (own_nd (own_n sv))), vi (own_L sv), vr b2] [(.int 114), (.int 11), (.ref b2)])) rfl rfl (hb hby own_d39_129)
  have N26 := Fr.snoc X26 N24 g_b2
  have K26 : Keep h0 h26 [] := K24.wr W26 (Or.inr hz_b2)
  have Z26 : n0 ≤ h26.size := Nat.le_trans Z24 (Keep.of_wr W26).1
  have O26 := O24.wr W26 g_b2
  have fw26 := (show Arv Z h26 b2 k2 .char (own_L sv) (((own_ex (own_tl sv) 11).set ((11 : Int32)).toNatClampNeg (114 : Int32)).map Value.int) (.int 0) by have q := Arv.set Ar25 q25 S25 M25 H25 G25 (fits_nar_char _) W26 (((11 : Int32)).toNatClampNeg) rfl (own_lx sv (own_ex_len _ _) (by decide)); rw [own_lset] at q; exact q)
  rw [own_xs11] at fw26
  refine own_st (T' := T26) (g' := (mkF m 130 #[vi sv, vi 1, vl (-(sv.toInt64)), .second, vi (Int32.ofNat (own_nd (own_n sv))), vi (own_L sv), vr b2] [])) st26 ?_
  refine own_st (T' := T26) (g' := (mkF m 136 #[vi sv, vi 1, vl (-(sv.toInt64)), .second, vi (Int32.ofNat (own_nd (own_n sv))), vi (own_L sv), vr b2] [(.int 32), (.int 12), (.ref b2)])) (fun t k => ?_) ?_
  ·refine XS.aload X26.here hx rfl (hb hby own_d39_130) rfl rfl ?_
   refine XS.bipush X26.here hx rfl (hb hby own_d39_132) ?_
   refine XS.bipush X26.here hx rfl (hb hby own_d39_134) ?_
   exact k
  obtain ⟨cl27, Ar27, q27, S27, M27, H27, G27⟩ := id fw26
  obtain ⟨T28, h28, X28, e28, W28, st28⟩ := stC X26 hx hZ e26 Ar27 (j := (12 : Int32)) (inb_of S27 (own_inx sv (by decide) (by decide))) (g := (mkF m 136 #[vi sv, vi 1, vl (-(sv.toInt64)), .second, vi (Int32.ofNat (own_nd (own_n sv))), vi (own_L sv), vr b2] [(.int 32), (.int 12), (.ref b2)])) rfl rfl (hb hby own_d39_136)
  have N28 := Fr.snoc X28 N26 g_b2
  have K28 : Keep h0 h28 [] := K26.wr W28 (Or.inr hz_b2)
  have Z28 : n0 ≤ h28.size := Nat.le_trans Z26 (Keep.of_wr W28).1
  have O28 := O26.wr W28 g_b2
  have fw28 := (show Arv Z h28 b2 k2 .char (own_L sv) (((own_ex (own_tl sv) 12).set ((12 : Int32)).toNatClampNeg (32 : Int32)).map Value.int) (.int 0) by have q := Arv.set Ar27 q27 S27 M27 H27 G27 (fits_nar_char _) W28 (((12 : Int32)).toNatClampNeg) rfl (own_lx sv (own_ex_len _ _) (by decide)); rw [own_lset] at q; exact q)
  rw [own_xs12] at fw28
  refine own_st (T' := T28) (g' := (mkF m 137 #[vi sv, vi 1, vl (-(sv.toInt64)), .second, vi (Int32.ofNat (own_nd (own_n sv))), vi (own_L sv), vr b2] [])) st28 ?_
  refine own_st (T' := T28) (g' := (mkF m 143 #[vi sv, vi 1, vl (-(sv.toInt64)), .second, vi (Int32.ofNat (own_nd (own_n sv))), vi (own_L sv), vr b2] [(.int 97), (.int 13), (.ref b2)])) (fun t k => ?_) ?_
  ·refine XS.aload X28.here hx rfl (hb hby own_d39_137) rfl rfl ?_
   refine XS.bipush X28.here hx rfl (hb hby own_d39_139) ?_
   refine XS.bipush X28.here hx rfl (hb hby own_d39_141) ?_
   exact k
  obtain ⟨cl29, Ar29, q29, S29, M29, H29, G29⟩ := id fw28
  obtain ⟨T30, h30, X30, e30, W30, st30⟩ := stC X28 hx hZ e28 Ar29 (j := (13 : Int32)) (inb_of S29 (own_inx sv (by decide) (by decide))) (g := (mkF m 143 #[vi sv, vi 1, vl (-(sv.toInt64)), .second, vi (Int32.ofNat (own_nd (own_n sv))), vi (own_L sv), vr b2] [(.int 97), (.int 13), (.ref b2)])) rfl rfl (hb hby own_d39_143)
  have N30 := Fr.snoc X30 N28 g_b2
  have K30 : Keep h0 h30 [] := K28.wr W30 (Or.inr hz_b2)
  have Z30 : n0 ≤ h30.size := Nat.le_trans Z28 (Keep.of_wr W30).1
  have O30 := O28.wr W30 g_b2
  have fw30 := (show Arv Z h30 b2 k2 .char (own_L sv) (((own_ex (own_tl sv) 13).set ((13 : Int32)).toNatClampNeg (97 : Int32)).map Value.int) (.int 0) by have q := Arv.set Ar29 q29 S29 M29 H29 G29 (fits_nar_char _) W30 (((13 : Int32)).toNatClampNeg) rfl (own_lx sv (own_ex_len _ _) (by decide)); rw [own_lset] at q; exact q)
  rw [own_xs13] at fw30
  refine own_st (T' := T30) (g' := (mkF m 144 #[vi sv, vi 1, vl (-(sv.toInt64)), .second, vi (Int32.ofNat (own_nd (own_n sv))), vi (own_L sv), vr b2] [])) st30 ?_
  refine own_st (T' := T30) (g' := (mkF m 150 #[vi sv, vi 1, vl (-(sv.toInt64)), .second, vi (Int32.ofNat (own_nd (own_n sv))), vi (own_L sv), vr b2] [(.int 110), (.int 14), (.ref b2)])) (fun t k => ?_) ?_
  ·refine XS.aload X30.here hx rfl (hb hby own_d39_144) rfl rfl ?_
   refine XS.bipush X30.here hx rfl (hb hby own_d39_146) ?_
   refine XS.bipush X30.here hx rfl (hb hby own_d39_148) ?_
   exact k
  obtain ⟨cl31, Ar31, q31, S31, M31, H31, G31⟩ := id fw30
  obtain ⟨T32, h32, X32, e32, W32, st32⟩ := stC X30 hx hZ e30 Ar31 (j := (14 : Int32)) (inb_of S31 (own_inx sv (by decide) (by decide))) (g := (mkF m 150 #[vi sv, vi 1, vl (-(sv.toInt64)), .second, vi (Int32.ofNat (own_nd (own_n sv))), vi (own_L sv), vr b2] [(.int 110), (.int 14), (.ref b2)])) rfl rfl (hb hby own_d39_150)
  have N32 := Fr.snoc X32 N30 g_b2
  have K32 : Keep h0 h32 [] := K30.wr W32 (Or.inr hz_b2)
  have Z32 : n0 ≤ h32.size := Nat.le_trans Z30 (Keep.of_wr W32).1
  have O32 := O30.wr W32 g_b2
  have fw32 := (show Arv Z h32 b2 k2 .char (own_L sv) (((own_ex (own_tl sv) 14).set ((14 : Int32)).toNatClampNeg (110 : Int32)).map Value.int) (.int 0) by have q := Arv.set Ar31 q31 S31 M31 H31 G31 (fits_nar_char _) W32 (((14 : Int32)).toNatClampNeg) rfl (own_lx sv (own_ex_len _ _) (by decide)); rw [own_lset] at q; exact q)
  rw [own_xs14] at fw32
  refine own_st (T' := T32) (g' := (mkF m 151 #[vi sv, vi 1, vl (-(sv.toInt64)), .second, vi (Int32.ofNat (own_nd (own_n sv))), vi (own_L sv), vr b2] [])) st32 ?_
  refine own_st (T' := T32) (g' := (mkF m 157 #[vi sv, vi 1, vl (-(sv.toInt64)), .second, vi (Int32.ofNat (own_nd (own_n sv))), vi (own_L sv), vr b2] [(.int 115), (.int 15), (.ref b2)])) (fun t k => ?_) ?_
  ·refine XS.aload X32.here hx rfl (hb hby own_d39_151) rfl rfl ?_
   refine XS.bipush X32.here hx rfl (hb hby own_d39_153) ?_
   refine XS.bipush X32.here hx rfl (hb hby own_d39_155) ?_
   exact k
  obtain ⟨cl33, Ar33, q33, S33, M33, H33, G33⟩ := id fw32
  obtain ⟨T34, h34, X34, e34, W34, st34⟩ := stC X32 hx hZ e32 Ar33 (j := (15 : Int32)) (inb_of S33 (own_inx sv (by decide) (by decide))) (g := (mkF m 157 #[vi sv, vi 1, vl (-(sv.toInt64)), .second, vi (Int32.ofNat (own_nd (own_n sv))), vi (own_L sv), vr b2] [(.int 115), (.int 15), (.ref b2)])) rfl rfl (hb hby own_d39_157)
  have N34 := Fr.snoc X34 N32 g_b2
  have K34 : Keep h0 h34 [] := K32.wr W34 (Or.inr hz_b2)
  have Z34 : n0 ≤ h34.size := Nat.le_trans Z32 (Keep.of_wr W34).1
  have O34 := O32.wr W34 g_b2
  have fw34 := (show Arv Z h34 b2 k2 .char (own_L sv) (((own_ex (own_tl sv) 15).set ((15 : Int32)).toNatClampNeg (115 : Int32)).map Value.int) (.int 0) by have q := Arv.set Ar33 q33 S33 M33 H33 G33 (fits_nar_char _) W34 (((15 : Int32)).toNatClampNeg) rfl (own_lx sv (own_ex_len _ _) (by decide)); rw [own_lset] at q; exact q)
  rw [own_xs15] at fw34
  refine own_st (T' := T34) (g' := (mkF m 158 #[vi sv, vi 1, vl (-(sv.toInt64)), .second, vi (Int32.ofNat (own_nd (own_n sv))), vi (own_L sv), vr b2] [])) st34 ?_
  refine own_st (T' := T34) (g' := (mkF m 164 #[vi sv, vi 1, vl (-(sv.toInt64)), .second, vi (Int32.ofNat (own_nd (own_n sv))), vi (own_L sv), vr b2] [(.int 119), (.int 16), (.ref b2)])) (fun t k => ?_) ?_
  ·refine XS.aload X34.here hx rfl (hb hby own_d39_158) rfl rfl ?_
   refine XS.bipush X34.here hx rfl (hb hby own_d39_160) ?_
   refine XS.bipush X34.here hx rfl (hb hby own_d39_162) ?_
   exact k
  obtain ⟨cl35, Ar35, q35, S35, M35, H35, G35⟩ := id fw34
  obtain ⟨T36, h36, X36, e36, W36, st36⟩ := stC X34 hx hZ e34 Ar35 (j := (16 : Int32)) (inb_of S35 (own_inx sv (by decide) (by decide))) (g := (mkF m 164 #[vi sv, vi 1, vl (-(sv.toInt64)), .second, vi (Int32.ofNat (own_nd (own_n sv))), vi (own_L sv), vr b2] [(.int 119), (.int 16), (.ref b2)])) rfl rfl (hb hby own_d39_164)
  have N36 := Fr.snoc X36 N34 g_b2
  have K36 : Keep h0 h36 [] := K34.wr W36 (Or.inr hz_b2)
  have Z36 : n0 ≤ h36.size := Nat.le_trans Z34 (Keep.of_wr W36).1
  have O36 := O34.wr W36 g_b2
  have fw36 := (show Arv Z h36 b2 k2 .char (own_L sv) (((own_ex (own_tl sv) 16).set ((16 : Int32)).toNatClampNeg (119 : Int32)).map Value.int) (.int 0) by have q := Arv.set Ar35 q35 S35 M35 H35 G35 (fits_nar_char _) W36 (((16 : Int32)).toNatClampNeg) rfl (own_lx sv (own_ex_len _ _) (by decide)); rw [own_lset] at q; exact q)
  rw [own_xs16] at fw36
  refine own_st (T' := T36) (g' := (mkF m 165 #[vi sv, vi 1, vl (-(sv.toInt64)), .second, vi (Int32.ofNat (own_nd (own_n sv))), vi (own_L sv), vr b2] [])) st36 ?_
  refine own_st (T' := T36) (g' := (mkF m 171 #[vi sv, vi 1, vl (-(sv.toInt64)), .second, vi (Int32.ofNat (own_nd (own_n sv))), vi (own_L sv), vr b2] [(.int 101), (.int 17), (.ref b2)])) (fun t k => ?_) ?_
  ·refine XS.aload X36.here hx rfl (hb hby own_d39_165) rfl rfl ?_
   refine XS.bipush X36.here hx rfl (hb hby own_d39_167) ?_
   refine XS.bipush X36.here hx rfl (hb hby own_d39_169) ?_
   exact k
  obtain ⟨cl37, Ar37, q37, S37, M37, H37, G37⟩ := id fw36
  obtain ⟨T38, h38, X38, e38, W38, st38⟩ := stC X36 hx hZ e36 Ar37 (j := (17 : Int32)) (inb_of S37 (own_inx sv (by decide) (by decide))) (g := (mkF m 171 #[vi sv, vi 1, vl (-(sv.toInt64)), .second, vi (Int32.ofNat (own_nd (own_n sv))), vi (own_L sv), vr b2] [(.int 101), (.int 17), (.ref b2)])) rfl rfl (hb hby own_d39_171)
  have N38 := Fr.snoc X38 N36 g_b2
  have K38 : Keep h0 h38 [] := K36.wr W38 (Or.inr hz_b2)
  have Z38 : n0 ≤ h38.size := Nat.le_trans Z36 (Keep.of_wr W38).1
  have O38 := O36.wr W38 g_b2
  have fw38 := (show Arv Z h38 b2 k2 .char (own_L sv) (((own_ex (own_tl sv) 17).set ((17 : Int32)).toNatClampNeg (101 : Int32)).map Value.int) (.int 0) by have q := Arv.set Ar37 q37 S37 M37 H37 G37 (fits_nar_char _) W38 (((17 : Int32)).toNatClampNeg) rfl (own_lx sv (own_ex_len _ _) (by decide)); rw [own_lset] at q; exact q)
  rw [own_xs17] at fw38
  refine own_st (T' := T38) (g' := (mkF m 172 #[vi sv, vi 1, vl (-(sv.toInt64)), .second, vi (Int32.ofNat (own_nd (own_n sv))), vi (own_L sv), vr b2] [])) st38 ?_
  refine own_st (T' := T38) (g' := (mkF m 178 #[vi sv, vi 1, vl (-(sv.toInt64)), .second, vi (Int32.ofNat (own_nd (own_n sv))), vi (own_L sv), vr b2] [(.int 114), (.int 18), (.ref b2)])) (fun t k => ?_) ?_
  ·refine XS.aload X38.here hx rfl (hb hby own_d39_172) rfl rfl ?_
   refine XS.bipush X38.here hx rfl (hb hby own_d39_174) ?_
   refine XS.bipush X38.here hx rfl (hb hby own_d39_176) ?_
   exact k
  obtain ⟨cl39, Ar39, q39, S39, M39, H39, G39⟩ := id fw38
  obtain ⟨T40, h40, X40, e40, W40, st40⟩ := stC X38 hx hZ e38 Ar39 (j := (18 : Int32)) (inb_of S39 (own_inx sv (by decide) (by decide))) (g := (mkF m 178 #[vi sv, vi 1, vl (-(sv.toInt64)), .second, vi (Int32.ofNat (own_nd (own_n sv))), vi (own_L sv), vr b2] [(.int 114), (.int 18), (.ref b2)])) rfl rfl (hb hby own_d39_178)
  have N40 := Fr.snoc X40 N38 g_b2
  have K40 : Keep h0 h40 [] := K38.wr W40 (Or.inr hz_b2)
  have Z40 : n0 ≤ h40.size := Nat.le_trans Z38 (Keep.of_wr W40).1
  have O40 := O38.wr W40 g_b2
  have fw40 := (show Arv Z h40 b2 k2 .char (own_L sv) (((own_ex (own_tl sv) 18).set ((18 : Int32)).toNatClampNeg (114 : Int32)).map Value.int) (.int 0) by have q := Arv.set Ar39 q39 S39 M39 H39 G39 (fits_nar_char _) W40 (((18 : Int32)).toNatClampNeg) rfl (own_lx sv (own_ex_len _ _) (by decide)); rw [own_lset] at q; exact q)
  rw [own_xs18] at fw40
  refine own_st (T' := T40) (g' := (mkF m 179 #[vi sv, vi 1, vl (-(sv.toInt64)), .second, vi (Int32.ofNat (own_nd (own_n sv))), vi (own_L sv), vr b2] [])) st40 ?_
  refine own_st (T' := T40) (g' := (mkF m 185 #[vi sv, vi 1, vl (-(sv.toInt64)), .second, vi (Int32.ofNat (own_nd (own_n sv))), vi (own_L sv), vr b2] [(.int 101), (.int 19), (.ref b2)])) (fun t k => ?_) ?_
  ·refine XS.aload X40.here hx rfl (hb hby own_d39_179) rfl rfl ?_
   refine XS.bipush X40.here hx rfl (hb hby own_d39_181) ?_
   refine XS.bipush X40.here hx rfl (hb hby own_d39_183) ?_
   exact k
  obtain ⟨cl41, Ar41, q41, S41, M41, H41, G41⟩ := id fw40
  obtain ⟨T42, h42, X42, e42, W42, st42⟩ := stC X40 hx hZ e40 Ar41 (j := (19 : Int32)) (inb_of S41 (own_inx sv (by decide) (by decide))) (g := (mkF m 185 #[vi sv, vi 1, vl (-(sv.toInt64)), .second, vi (Int32.ofNat (own_nd (own_n sv))), vi (own_L sv), vr b2] [(.int 101), (.int 19), (.ref b2)])) rfl rfl (hb hby own_d39_185)
  have N42 := Fr.snoc X42 N40 g_b2
  have K42 : Keep h0 h42 [] := K40.wr W42 (Or.inr hz_b2)
  have Z42 : n0 ≤ h42.size := Nat.le_trans Z40 (Keep.of_wr W42).1
  have O42 := O40.wr W42 g_b2
  have fw42 := (show Arv Z h42 b2 k2 .char (own_L sv) (((own_ex (own_tl sv) 19).set ((19 : Int32)).toNatClampNeg (101 : Int32)).map Value.int) (.int 0) by have q := Arv.set Ar41 q41 S41 M41 H41 G41 (fits_nar_char _) W42 (((19 : Int32)).toNatClampNeg) rfl (own_lx sv (own_ex_len _ _) (by decide)); rw [own_lset] at q; exact q)
  rw [own_xs19] at fw42
  refine own_st (T' := T42) (g' := (mkF m 186 #[vi sv, vi 1, vl (-(sv.toInt64)), .second, vi (Int32.ofNat (own_nd (own_n sv))), vi (own_L sv), vr b2] [])) st42 ?_
  refine own_st (T' := T42) (g' := (mkF m 192 #[vi sv, vi 1, vl (-(sv.toInt64)), .second, vi (Int32.ofNat (own_nd (own_n sv))), vi (own_L sv), vr b2] [(.int 100), (.int 20), (.ref b2)])) (fun t k => ?_) ?_
  ·refine XS.aload X42.here hx rfl (hb hby own_d39_186) rfl rfl ?_
   refine XS.bipush X42.here hx rfl (hb hby own_d39_188) ?_
   refine XS.bipush X42.here hx rfl (hb hby own_d39_190) ?_
   exact k
  obtain ⟨cl43, Ar43, q43, S43, M43, H43, G43⟩ := id fw42
  obtain ⟨T44, h44, X44, e44, W44, st44⟩ := stC X42 hx hZ e42 Ar43 (j := (20 : Int32)) (inb_of S43 (own_inx sv (by decide) (by decide))) (g := (mkF m 192 #[vi sv, vi 1, vl (-(sv.toInt64)), .second, vi (Int32.ofNat (own_nd (own_n sv))), vi (own_L sv), vr b2] [(.int 100), (.int 20), (.ref b2)])) rfl rfl (hb hby own_d39_192)
  have N44 := Fr.snoc X44 N42 g_b2
  have K44 : Keep h0 h44 [] := K42.wr W44 (Or.inr hz_b2)
  have Z44 : n0 ≤ h44.size := Nat.le_trans Z42 (Keep.of_wr W44).1
  have O44 := O42.wr W44 g_b2
  have fw44 := (show Arv Z h44 b2 k2 .char (own_L sv) (((own_ex (own_tl sv) 20).set ((20 : Int32)).toNatClampNeg (100 : Int32)).map Value.int) (.int 0) by have q := Arv.set Ar43 q43 S43 M43 H43 G43 (fits_nar_char _) W44 (((20 : Int32)).toNatClampNeg) rfl (own_lx sv (own_ex_len _ _) (by decide)); rw [own_lset] at q; exact q)
  rw [own_xs20] at fw44
  refine own_st (T' := T44) (g' := (mkF m 193 #[vi sv, vi 1, vl (-(sv.toInt64)), .second, vi (Int32.ofNat (own_nd (own_n sv))), vi (own_L sv), vr b2] [])) st44 ?_
  refine own_st (T' := T44) (g' := (mkF m 199 #[vi sv, vi 1, vl (-(sv.toInt64)), .second, vi (Int32.ofNat (own_nd (own_n sv))), vi (own_L sv), vr b2] [(.int 32), (.int 21), (.ref b2)])) (fun t k => ?_) ?_
  ·refine XS.aload X44.here hx rfl (hb hby own_d39_193) rfl rfl ?_
   refine XS.bipush X44.here hx rfl (hb hby own_d39_195) ?_
   refine XS.bipush X44.here hx rfl (hb hby own_d39_197) ?_
   exact k
  obtain ⟨cl45, Ar45, q45, S45, M45, H45, G45⟩ := id fw44
  obtain ⟨T46, h46, X46, e46, W46, st46⟩ := stC X44 hx hZ e44 Ar45 (j := (21 : Int32)) (inb_of S45 (own_inx sv (by decide) (by decide))) (g := (mkF m 199 #[vi sv, vi 1, vl (-(sv.toInt64)), .second, vi (Int32.ofNat (own_nd (own_n sv))), vi (own_L sv), vr b2] [(.int 32), (.int 21), (.ref b2)])) rfl rfl (hb hby own_d39_199)
  have N46 := Fr.snoc X46 N44 g_b2
  have K46 : Keep h0 h46 [] := K44.wr W46 (Or.inr hz_b2)
  have Z46 : n0 ≤ h46.size := Nat.le_trans Z44 (Keep.of_wr W46).1
  have O46 := O44.wr W46 g_b2
  have fw46 := (show Arv Z h46 b2 k2 .char (own_L sv) (((own_ex (own_tl sv) 21).set ((21 : Int32)).toNatClampNeg (32 : Int32)).map Value.int) (.int 0) by have q := Arv.set Ar45 q45 S45 M45 H45 G45 (fits_nar_char _) W46 (((21 : Int32)).toNatClampNeg) rfl (own_lx sv (own_ex_len _ _) (by decide)); rw [own_lset] at q; exact q)
  rw [own_xs21] at fw46
  refine own_st (T' := T46) (g' := (mkF m 200 #[vi sv, vi 1, vl (-(sv.toInt64)), .second, vi (Int32.ofNat (own_nd (own_n sv))), vi (own_L sv), vr b2] [])) st46 ?_
  refine own_st (T' := T46) (g' := (mkF m 210 #[vi sv, vi 1, vl (-(sv.toInt64)), .second, vi (Int32.ofNat (own_nd (own_n sv))), vi (own_L sv), vr b2] [(.int 45), (.int 22), (.ref b2)])) (fun t k => ?_) ?_
  ·refine XS.iloadN X46.here hx rfl (hb hby own_d39_200) rfl ?_
   refine XS.ifNo X46.here hx rfl (hb hby own_d39_201) rfl ((if0 _ _).trans (feq (by decide : ¬ ((1 : Int32) = (0 : Int32)))).1) ?_
   refine XS.aload X46.here hx rfl (hb hby own_d39_204) rfl rfl ?_
   refine XS.bipush X46.here hx rfl (hb hby own_d39_206) ?_
   refine XS.bipush X46.here hx rfl (hb hby own_d39_208) ?_
   exact k
  obtain ⟨cl47, Ar47, q47, S47, M47, H47, G47⟩ := id fw46
  obtain ⟨T48, h48, X48, e48, W48, st48⟩ := stC X46 hx hZ e46 Ar47 (j := (22 : Int32)) (inb_of S47 (own_inx sv (by decide) (by decide))) (g := (mkF m 210 #[vi sv, vi 1, vl (-(sv.toInt64)), .second, vi (Int32.ofNat (own_nd (own_n sv))), vi (own_L sv), vr b2] [(.int 45), (.int 22), (.ref b2)])) rfl rfl (hb hby own_d39_210)
  have N48 := Fr.snoc X48 N46 g_b2
  have K48 : Keep h0 h48 [] := K46.wr W48 (Or.inr hz_b2)
  have Z48 : n0 ≤ h48.size := Nat.le_trans Z46 (Keep.of_wr W48).1
  have O48 := O46.wr W48 g_b2
  have fw48 := (show Arv Z h48 b2 k2 .char (own_L sv) (((own_ex (own_tl sv) 22).set ((22 : Int32)).toNatClampNeg (45 : Int32)).map Value.int) (.int 0) by have q := Arv.set Ar47 q47 S47 M47 H47 G47 (fits_nar_char _) W48 (((22 : Int32)).toNatClampNeg) rfl (own_lx sv (own_ex_len _ _) (by decide)); rw [own_lset] at q; exact q)
  refine own_st (T' := T48) (g' := (mkF m 211 #[vi sv, vi 1, vl (-(sv.toInt64)), .second, vi (Int32.ofNat (own_nd (own_n sv))), vi (own_L sv), vr b2] [])) st48 ?_
  have Vb49 : Arv Z h48 b2 k2 .char (own_L sv) ((own_pw sv (own_nd (own_n sv)) (own_tl sv) (own_base sv) 0).map Value.int) (.int 0) := by rw [own_pw, own_base, if_pos hneg]; exact fw48
  have Jq : ∀ (T : State) (locs : List Loc), Stand p l e own_r39 s m #[(.int sv)] below meth c T locs 1 33 → Fr n0 locs → T.heap = h48 → own_Go p e below (own_K s (own_Q39 Z sv cs h0 n0) own_r39.cells own_r39.slots) T (mkF m 211 #[vi sv, vi 1, vl (-(sv.toInt64)), .second, vi (Int32.ofNat (own_nd (own_n sv))), vi (own_L sv), vr b2] []) := by
   intro T50 locs50 X50 N50 e50
   refine own_st (T' := T50) (g' := (mkF m 220 #[vi sv, vi 1, vl (-(sv.toInt64)), .second, vi (Int32.ofNat (own_nd (own_n sv))), vi (own_L sv), vr b2] [(.long (1 : Int64)), (.int 0), (.int (Int32.ofNat (own_nd (own_n sv)))), (.long (-(sv.toInt64))), (.int (own_L sv)), (.ref b2)])) (fun t k => ?_) ?_
   ·refine XS.aload X50.here hx rfl (hb hby own_d39_211) rfl rfl ?_
    refine XS.iload X50.here hx rfl (hb hby own_d39_213) rfl ?_
    refine XS.lloadN X50.here hx rfl (hb hby own_d39_215) rfl ?_
    refine XS.iload X50.here hx rfl (hb hby own_d39_216) rfl ?_
    refine XS.iconst X50.here hx rfl (hb hby own_d39_218) ?_
    refine XS.lconst X50.here hx rfl (hb hby own_d39_219) ?_
    exact k
   obtain ⟨_, _, ⟨T51, L51, c51, n51⟩, -, X51, ⟨Lc51, hQ51, l51, y51, z51⟩, st51⟩ := Jvm.LawKit.callS X50 hx (y := own_y30) hown (om hZ hw 215 rfl) (om hZ hw 216 rfl) (om hZ hw 208 rfl) (om hZ hw 217 rfl) (by decide) (backOf (W := 0) (own_rm41 l Z a0 hw b2 k2 (own_pw sv (own_nd (own_n sv)) (own_tl sv) (own_base sv) 0) (own_L sv) (-(sv.toInt64)) (Int32.ofNat (own_nd (own_n sv))) (0 : Int32) (1 : Int64) sv (own_tl sv) (own_nd (own_n sv)) 0 h48 n0 Z48 Vb49 g_b2 (by rw [own_pw_len, own_base_len]) (own_L_i sv) (own_tl_r sv).2 (own_av1 hneg) (own_ndi _) (by decide) (by decide) (own_dp sv)) hZ (own_w hw 217 rfl) (own_w hw 208 rfl) (by decide) (by decide)) (g := (mkF m 220 #[vi sv, vi 1, vl (-(sv.toInt64)), .second, vi (Int32.ofNat (own_nd (own_n sv))), vi (own_L sv), vr b2] [(.long (1 : Int64)), (.int 0), (.int (Int32.ofNat (own_nd (own_n sv)))), (.long (-(sv.toInt64))), (.int (own_L sv)), (.ref b2)])) rfl (by rw [hml]; rfl) (argsL := [(.ref b2), (.int (own_L sv)), (.long (-(sv.toInt64))), (.int (Int32.ofNat (own_nd (own_n sv)))), (.int 0), (.long (1 : Int64))]) (rest := []) (lenOf own_pd20 rfl) rfl (by show 2 * 0 + _ ≤ _; exact Nat.le_of_eq rfl) (hb hby own_d39_220) (fun _ _ => ⟨rfl, e50, (by decide : 1 + 0 ≤ _), (by decide : 33 + 0 ≤ _)⟩)
   dsimp only [Pt.U, Pt.locs, Pt.cells, Pt.slots] at X51 l51 y51 z51 st51 hQ51
   subst l51 y51 z51
   obtain ⟨h51, e51⟩ : ∃ z, T51.heap = z := ⟨_, rfl⟩
   rw [e51] at hQ51
   obtain ⟨rfl, N51q, Kc51, Vc51⟩ := hQ51
   have N51 := Fr.app N50 N51q
   have K51 : Keep h0 h51 [] := K48.trans Kc51 (allS (Or.inr hz_b2) all0)
   have Z51 : n0 ≤ h51.size := Nat.le_trans Z48 Kc51.1
   have O51 := O48.keep Kc51 (allS g_b2 all0)
   have Vq51 : Arv Z h51 b2 k2 .char (own_L sv) ((own_pw sv (own_nd (own_n sv)) (own_tl sv) (own_base sv) 1).map Value.int) (.int 0) := Vc51
   refine own_st (T' := T51) (g' := (mkF m 223 #[vi sv, vi 1, vl (-(sv.toInt64)), .second, vi (Int32.ofNat (own_nd (own_n sv))), vi (own_L sv), vr b2] [])) st51 ?_
   refine own_st (T' := T51) (g' := (mkF m 234 #[vi sv, vi 1, vl (-(sv.toInt64)), .second, vi (Int32.ofNat (own_nd (own_n sv))), vi (own_L sv), vr b2] [(.long (10 : Int64)), (.int 1), (.int (Int32.ofNat (own_nd (own_n sv)))), (.long (-(sv.toInt64))), (.int (own_L sv)), (.ref b2)])) (fun t k => ?_) ?_
   ·refine XS.aload X51.here hx rfl (hb hby own_d39_223) rfl rfl ?_
    refine XS.iload X51.here hx rfl (hb hby own_d39_225) rfl ?_
    refine XS.lloadN X51.here hx rfl (hb hby own_d39_227) rfl ?_
    refine XS.iload X51.here hx rfl (hb hby own_d39_228) rfl ?_
    refine XS.iconst X51.here hx rfl (hb hby own_d39_230) ?_
    refine X51.ldc2Long hx hown (om hZ hw 213 rfl) (g := (mkF m 231 #[vi sv, vi 1, vl (-(sv.toInt64)), .second, vi (Int32.ofNat (own_nd (own_n sv))), vi (own_L sv), vr b2] [(.int 1), (.int (Int32.ofNat (own_nd (own_n sv)))), (.long (-(sv.toInt64))), (.int (own_L sv)), (.ref b2)])) rfl (hb hby own_d39_231) _ ?_
    exact k
   obtain ⟨_, _, ⟨T52, L52, c52, n52⟩, -, X52, ⟨Lc52, hQ52, l52, y52, z52⟩, st52⟩ := Jvm.LawKit.callS X51 hx (y := own_y30) hown (om hZ hw 215 rfl) (om hZ hw 216 rfl) (om hZ hw 208 rfl) (om hZ hw 217 rfl) (by decide) (backOf (W := 0) (own_rm41 l Z a0 hw b2 k2 (own_pw sv (own_nd (own_n sv)) (own_tl sv) (own_base sv) 1) (own_L sv) (-(sv.toInt64)) (Int32.ofNat (own_nd (own_n sv))) (1 : Int32) (10 : Int64) sv (own_tl sv) (own_nd (own_n sv)) 1 h51 n0 Z51 Vq51 g_b2 (by rw [own_pw_len, own_base_len]) (own_L_i sv) (own_tl_r sv).2 (own_av1 hneg) (own_ndi _) (by decide) (by decide) (own_dp sv)) hZ (own_w hw 217 rfl) (own_w hw 208 rfl) (by decide) (by decide)) (g := (mkF m 234 #[vi sv, vi 1, vl (-(sv.toInt64)), .second, vi (Int32.ofNat (own_nd (own_n sv))), vi (own_L sv), vr b2] [(.long (10 : Int64)), (.int 1), (.int (Int32.ofNat (own_nd (own_n sv)))), (.long (-(sv.toInt64))), (.int (own_L sv)), (.ref b2)])) rfl (by rw [hml]; rfl) (argsL := [(.ref b2), (.int (own_L sv)), (.long (-(sv.toInt64))), (.int (Int32.ofNat (own_nd (own_n sv)))), (.int 1), (.long (10 : Int64))]) (rest := []) (lenOf own_pd20 rfl) rfl (by show 2 * 0 + _ ≤ _; exact Nat.le_of_eq rfl) (hb hby own_d39_234) (fun _ _ => ⟨rfl, e51, (by decide : 1 + 0 ≤ _), (by decide : 33 + 0 ≤ _)⟩)
   dsimp only [Pt.U, Pt.locs, Pt.cells, Pt.slots] at X52 l52 y52 z52 st52 hQ52
   subst l52 y52 z52
   obtain ⟨h52, e52⟩ : ∃ z, T52.heap = z := ⟨_, rfl⟩
   rw [e52] at hQ52
   obtain ⟨rfl, N52q, Kc52, Vc52⟩ := hQ52
   have N52 := Fr.app N51 N52q
   have K52 : Keep h0 h52 [] := K51.trans Kc52 (allS (Or.inr hz_b2) all0)
   have Z52 : n0 ≤ h52.size := Nat.le_trans Z51 Kc52.1
   have O52 := O51.keep Kc52 (allS g_b2 all0)
   have Vq52 : Arv Z h52 b2 k2 .char (own_L sv) ((own_pw sv (own_nd (own_n sv)) (own_tl sv) (own_base sv) 2).map Value.int) (.int 0) := Vc52
   refine own_st (T' := T52) (g' := (mkF m 237 #[vi sv, vi 1, vl (-(sv.toInt64)), .second, vi (Int32.ofNat (own_nd (own_n sv))), vi (own_L sv), vr b2] [])) st52 ?_
   refine own_st (T' := T52) (g' := (mkF m 248 #[vi sv, vi 1, vl (-(sv.toInt64)), .second, vi (Int32.ofNat (own_nd (own_n sv))), vi (own_L sv), vr b2] [(.long (100 : Int64)), (.int 2), (.int (Int32.ofNat (own_nd (own_n sv)))), (.long (-(sv.toInt64))), (.int (own_L sv)), (.ref b2)])) (fun t k => ?_) ?_
   ·refine XS.aload X52.here hx rfl (hb hby own_d39_237) rfl rfl ?_
    refine XS.iload X52.here hx rfl (hb hby own_d39_239) rfl ?_
    refine XS.lloadN X52.here hx rfl (hb hby own_d39_241) rfl ?_
    refine XS.iload X52.here hx rfl (hb hby own_d39_242) rfl ?_
    refine XS.iconst X52.here hx rfl (hb hby own_d39_244) ?_
    refine X52.ldc2Long hx hown (om hZ hw 218 rfl) (g := (mkF m 245 #[vi sv, vi 1, vl (-(sv.toInt64)), .second, vi (Int32.ofNat (own_nd (own_n sv))), vi (own_L sv), vr b2] [(.int 2), (.int (Int32.ofNat (own_nd (own_n sv)))), (.long (-(sv.toInt64))), (.int (own_L sv)), (.ref b2)])) rfl (hb hby own_d39_245) _ ?_
    exact k
   obtain ⟨_, _, ⟨T53, L53, c53, n53⟩, -, X53, ⟨Lc53, hQ53, l53, y53, z53⟩, st53⟩ := Jvm.LawKit.callS X52 hx (y := own_y30) hown (om hZ hw 215 rfl) (om hZ hw 216 rfl) (om hZ hw 208 rfl) (om hZ hw 217 rfl) (by decide) (backOf (W := 0) (own_rm41 l Z a0 hw b2 k2 (own_pw sv (own_nd (own_n sv)) (own_tl sv) (own_base sv) 2) (own_L sv) (-(sv.toInt64)) (Int32.ofNat (own_nd (own_n sv))) (2 : Int32) (100 : Int64) sv (own_tl sv) (own_nd (own_n sv)) 2 h52 n0 Z52 Vq52 g_b2 (by rw [own_pw_len, own_base_len]) (own_L_i sv) (own_tl_r sv).2 (own_av1 hneg) (own_ndi _) (by decide) (by decide) (own_dp sv)) hZ (own_w hw 217 rfl) (own_w hw 208 rfl) (by decide) (by decide)) (g := (mkF m 248 #[vi sv, vi 1, vl (-(sv.toInt64)), .second, vi (Int32.ofNat (own_nd (own_n sv))), vi (own_L sv), vr b2] [(.long (100 : Int64)), (.int 2), (.int (Int32.ofNat (own_nd (own_n sv)))), (.long (-(sv.toInt64))), (.int (own_L sv)), (.ref b2)])) rfl (by rw [hml]; rfl) (argsL := [(.ref b2), (.int (own_L sv)), (.long (-(sv.toInt64))), (.int (Int32.ofNat (own_nd (own_n sv)))), (.int 2), (.long (100 : Int64))]) (rest := []) (lenOf own_pd20 rfl) rfl (by show 2 * 0 + _ ≤ _; exact Nat.le_of_eq rfl) (hb hby own_d39_248) (fun _ _ => ⟨rfl, e52, (by decide : 1 + 0 ≤ _), (by decide : 33 + 0 ≤ _)⟩)
   dsimp only [Pt.U, Pt.locs, Pt.cells, Pt.slots] at X53 l53 y53 z53 st53 hQ53
   subst l53 y53 z53
   obtain ⟨h53, e53⟩ : ∃ z, T53.heap = z := ⟨_, rfl⟩
   rw [e53] at hQ53
   obtain ⟨rfl, N53q, Kc53, Vc53⟩ := hQ53
   have N53 := Fr.app N52 N53q
   have K53 : Keep h0 h53 [] := K52.trans Kc53 (allS (Or.inr hz_b2) all0)
   have Z53 : n0 ≤ h53.size := Nat.le_trans Z52 Kc53.1
   have O53 := O52.keep Kc53 (allS g_b2 all0)
   have Vq53 : Arv Z h53 b2 k2 .char (own_L sv) ((own_pw sv (own_nd (own_n sv)) (own_tl sv) (own_base sv) 3).map Value.int) (.int 0) := Vc53
   refine own_st (T' := T53) (g' := (mkF m 251 #[vi sv, vi 1, vl (-(sv.toInt64)), .second, vi (Int32.ofNat (own_nd (own_n sv))), vi (own_L sv), vr b2] [])) st53 ?_
   refine own_st (T' := T53) (g' := (mkF m 262 #[vi sv, vi 1, vl (-(sv.toInt64)), .second, vi (Int32.ofNat (own_nd (own_n sv))), vi (own_L sv), vr b2] [(.long (1000 : Int64)), (.int 3), (.int (Int32.ofNat (own_nd (own_n sv)))), (.long (-(sv.toInt64))), (.int (own_L sv)), (.ref b2)])) (fun t k => ?_) ?_
   ·refine XS.aload X53.here hx rfl (hb hby own_d39_251) rfl rfl ?_
    refine XS.iload X53.here hx rfl (hb hby own_d39_253) rfl ?_
    refine XS.lloadN X53.here hx rfl (hb hby own_d39_255) rfl ?_
    refine XS.iload X53.here hx rfl (hb hby own_d39_256) rfl ?_
    refine XS.iconst X53.here hx rfl (hb hby own_d39_258) ?_
    refine X53.ldc2Long hx hown (om hZ hw 219 rfl) (g := (mkF m 259 #[vi sv, vi 1, vl (-(sv.toInt64)), .second, vi (Int32.ofNat (own_nd (own_n sv))), vi (own_L sv), vr b2] [(.int 3), (.int (Int32.ofNat (own_nd (own_n sv)))), (.long (-(sv.toInt64))), (.int (own_L sv)), (.ref b2)])) rfl (hb hby own_d39_259) _ ?_
    exact k
   obtain ⟨_, _, ⟨T54, L54, c54, n54⟩, -, X54, ⟨Lc54, hQ54, l54, y54, z54⟩, st54⟩ := Jvm.LawKit.callS X53 hx (y := own_y30) hown (om hZ hw 215 rfl) (om hZ hw 216 rfl) (om hZ hw 208 rfl) (om hZ hw 217 rfl) (by decide) (backOf (W := 0) (own_rm41 l Z a0 hw b2 k2 (own_pw sv (own_nd (own_n sv)) (own_tl sv) (own_base sv) 3) (own_L sv) (-(sv.toInt64)) (Int32.ofNat (own_nd (own_n sv))) (3 : Int32) (1000 : Int64) sv (own_tl sv) (own_nd (own_n sv)) 3 h53 n0 Z53 Vq53 g_b2 (by rw [own_pw_len, own_base_len]) (own_L_i sv) (own_tl_r sv).2 (own_av1 hneg) (own_ndi _) (by decide) (by decide) (own_dp sv)) hZ (own_w hw 217 rfl) (own_w hw 208 rfl) (by decide) (by decide)) (g := (mkF m 262 #[vi sv, vi 1, vl (-(sv.toInt64)), .second, vi (Int32.ofNat (own_nd (own_n sv))), vi (own_L sv), vr b2] [(.long (1000 : Int64)), (.int 3), (.int (Int32.ofNat (own_nd (own_n sv)))), (.long (-(sv.toInt64))), (.int (own_L sv)), (.ref b2)])) rfl (by rw [hml]; rfl) (argsL := [(.ref b2), (.int (own_L sv)), (.long (-(sv.toInt64))), (.int (Int32.ofNat (own_nd (own_n sv)))), (.int 3), (.long (1000 : Int64))]) (rest := []) (lenOf own_pd20 rfl) rfl (by show 2 * 0 + _ ≤ _; exact Nat.le_of_eq rfl) (hb hby own_d39_262) (fun _ _ => ⟨rfl, e53, (by decide : 1 + 0 ≤ _), (by decide : 33 + 0 ≤ _)⟩)
   dsimp only [Pt.U, Pt.locs, Pt.cells, Pt.slots] at X54 l54 y54 z54 st54 hQ54
   subst l54 y54 z54
   obtain ⟨h54, e54⟩ : ∃ z, T54.heap = z := ⟨_, rfl⟩
   rw [e54] at hQ54
   obtain ⟨rfl, N54q, Kc54, Vc54⟩ := hQ54
   have N54 := Fr.app N53 N54q
   have K54 : Keep h0 h54 [] := K53.trans Kc54 (allS (Or.inr hz_b2) all0)
   have Z54 : n0 ≤ h54.size := Nat.le_trans Z53 Kc54.1
   have O54 := O53.keep Kc54 (allS g_b2 all0)
   have Vq54 : Arv Z h54 b2 k2 .char (own_L sv) ((own_pw sv (own_nd (own_n sv)) (own_tl sv) (own_base sv) 4).map Value.int) (.int 0) := Vc54
   refine own_st (T' := T54) (g' := (mkF m 265 #[vi sv, vi 1, vl (-(sv.toInt64)), .second, vi (Int32.ofNat (own_nd (own_n sv))), vi (own_L sv), vr b2] [])) st54 ?_
   refine own_st (T' := T54) (g' := (mkF m 276 #[vi sv, vi 1, vl (-(sv.toInt64)), .second, vi (Int32.ofNat (own_nd (own_n sv))), vi (own_L sv), vr b2] [(.long (10000 : Int64)), (.int 4), (.int (Int32.ofNat (own_nd (own_n sv)))), (.long (-(sv.toInt64))), (.int (own_L sv)), (.ref b2)])) (fun t k => ?_) ?_
   ·refine XS.aload X54.here hx rfl (hb hby own_d39_265) rfl rfl ?_
    refine XS.iload X54.here hx rfl (hb hby own_d39_267) rfl ?_
    refine XS.lloadN X54.here hx rfl (hb hby own_d39_269) rfl ?_
    refine XS.iload X54.here hx rfl (hb hby own_d39_270) rfl ?_
    refine XS.iconst X54.here hx rfl (hb hby own_d39_272) ?_
    refine X54.ldc2Long hx hown (om hZ hw 220 rfl) (g := (mkF m 273 #[vi sv, vi 1, vl (-(sv.toInt64)), .second, vi (Int32.ofNat (own_nd (own_n sv))), vi (own_L sv), vr b2] [(.int 4), (.int (Int32.ofNat (own_nd (own_n sv)))), (.long (-(sv.toInt64))), (.int (own_L sv)), (.ref b2)])) rfl (hb hby own_d39_273) _ ?_
    exact k
   obtain ⟨_, _, ⟨T55, L55, c55, n55⟩, -, X55, ⟨Lc55, hQ55, l55, y55, z55⟩, st55⟩ := Jvm.LawKit.callS X54 hx (y := own_y30) hown (om hZ hw 215 rfl) (om hZ hw 216 rfl) (om hZ hw 208 rfl) (om hZ hw 217 rfl) (by decide) (backOf (W := 0) (own_rm41 l Z a0 hw b2 k2 (own_pw sv (own_nd (own_n sv)) (own_tl sv) (own_base sv) 4) (own_L sv) (-(sv.toInt64)) (Int32.ofNat (own_nd (own_n sv))) (4 : Int32) (10000 : Int64) sv (own_tl sv) (own_nd (own_n sv)) 4 h54 n0 Z54 Vq54 g_b2 (by rw [own_pw_len, own_base_len]) (own_L_i sv) (own_tl_r sv).2 (own_av1 hneg) (own_ndi _) (by decide) (by decide) (own_dp sv)) hZ (own_w hw 217 rfl) (own_w hw 208 rfl) (by decide) (by decide)) (g := (mkF m 276 #[vi sv, vi 1, vl (-(sv.toInt64)), .second, vi (Int32.ofNat (own_nd (own_n sv))), vi (own_L sv), vr b2] [(.long (10000 : Int64)), (.int 4), (.int (Int32.ofNat (own_nd (own_n sv)))), (.long (-(sv.toInt64))), (.int (own_L sv)), (.ref b2)])) rfl (by rw [hml]; rfl) (argsL := [(.ref b2), (.int (own_L sv)), (.long (-(sv.toInt64))), (.int (Int32.ofNat (own_nd (own_n sv)))), (.int 4), (.long (10000 : Int64))]) (rest := []) (lenOf own_pd20 rfl) rfl (by show 2 * 0 + _ ≤ _; exact Nat.le_of_eq rfl) (hb hby own_d39_276) (fun _ _ => ⟨rfl, e54, (by decide : 1 + 0 ≤ _), (by decide : 33 + 0 ≤ _)⟩)
   dsimp only [Pt.U, Pt.locs, Pt.cells, Pt.slots] at X55 l55 y55 z55 st55 hQ55
   subst l55 y55 z55
   obtain ⟨h55, e55⟩ : ∃ z, T55.heap = z := ⟨_, rfl⟩
   rw [e55] at hQ55
   obtain ⟨rfl, N55q, Kc55, Vc55⟩ := hQ55
   have N55 := Fr.app N54 N55q
   have K55 : Keep h0 h55 [] := K54.trans Kc55 (allS (Or.inr hz_b2) all0)
   have Z55 : n0 ≤ h55.size := Nat.le_trans Z54 Kc55.1
   have O55 := O54.keep Kc55 (allS g_b2 all0)
   have Vq55 : Arv Z h55 b2 k2 .char (own_L sv) ((own_pw sv (own_nd (own_n sv)) (own_tl sv) (own_base sv) 5).map Value.int) (.int 0) := Vc55
   refine own_st (T' := T55) (g' := (mkF m 279 #[vi sv, vi 1, vl (-(sv.toInt64)), .second, vi (Int32.ofNat (own_nd (own_n sv))), vi (own_L sv), vr b2] [])) st55 ?_
   refine own_st (T' := T55) (g' := (mkF m 290 #[vi sv, vi 1, vl (-(sv.toInt64)), .second, vi (Int32.ofNat (own_nd (own_n sv))), vi (own_L sv), vr b2] [(.long (100000 : Int64)), (.int 5), (.int (Int32.ofNat (own_nd (own_n sv)))), (.long (-(sv.toInt64))), (.int (own_L sv)), (.ref b2)])) (fun t k => ?_) ?_
   ·refine XS.aload X55.here hx rfl (hb hby own_d39_279) rfl rfl ?_
    refine XS.iload X55.here hx rfl (hb hby own_d39_281) rfl ?_
    refine XS.lloadN X55.here hx rfl (hb hby own_d39_283) rfl ?_
    refine XS.iload X55.here hx rfl (hb hby own_d39_284) rfl ?_
    refine XS.iconst X55.here hx rfl (hb hby own_d39_286) ?_
    refine X55.ldc2Long hx hown (om hZ hw 221 rfl) (g := (mkF m 287 #[vi sv, vi 1, vl (-(sv.toInt64)), .second, vi (Int32.ofNat (own_nd (own_n sv))), vi (own_L sv), vr b2] [(.int 5), (.int (Int32.ofNat (own_nd (own_n sv)))), (.long (-(sv.toInt64))), (.int (own_L sv)), (.ref b2)])) rfl (hb hby own_d39_287) _ ?_
    exact k
   obtain ⟨_, _, ⟨T56, L56, c56, n56⟩, -, X56, ⟨Lc56, hQ56, l56, y56, z56⟩, st56⟩ := Jvm.LawKit.callS X55 hx (y := own_y30) hown (om hZ hw 215 rfl) (om hZ hw 216 rfl) (om hZ hw 208 rfl) (om hZ hw 217 rfl) (by decide) (backOf (W := 0) (own_rm41 l Z a0 hw b2 k2 (own_pw sv (own_nd (own_n sv)) (own_tl sv) (own_base sv) 5) (own_L sv) (-(sv.toInt64)) (Int32.ofNat (own_nd (own_n sv))) (5 : Int32) (100000 : Int64) sv (own_tl sv) (own_nd (own_n sv)) 5 h55 n0 Z55 Vq55 g_b2 (by rw [own_pw_len, own_base_len]) (own_L_i sv) (own_tl_r sv).2 (own_av1 hneg) (own_ndi _) (by decide) (by decide) (own_dp sv)) hZ (own_w hw 217 rfl) (own_w hw 208 rfl) (by decide) (by decide)) (g := (mkF m 290 #[vi sv, vi 1, vl (-(sv.toInt64)), .second, vi (Int32.ofNat (own_nd (own_n sv))), vi (own_L sv), vr b2] [(.long (100000 : Int64)), (.int 5), (.int (Int32.ofNat (own_nd (own_n sv)))), (.long (-(sv.toInt64))), (.int (own_L sv)), (.ref b2)])) rfl (by rw [hml]; rfl) (argsL := [(.ref b2), (.int (own_L sv)), (.long (-(sv.toInt64))), (.int (Int32.ofNat (own_nd (own_n sv)))), (.int 5), (.long (100000 : Int64))]) (rest := []) (lenOf own_pd20 rfl) rfl (by show 2 * 0 + _ ≤ _; exact Nat.le_of_eq rfl) (hb hby own_d39_290) (fun _ _ => ⟨rfl, e55, (by decide : 1 + 0 ≤ _), (by decide : 33 + 0 ≤ _)⟩)
   dsimp only [Pt.U, Pt.locs, Pt.cells, Pt.slots] at X56 l56 y56 z56 st56 hQ56
   subst l56 y56 z56
   obtain ⟨h56, e56⟩ : ∃ z, T56.heap = z := ⟨_, rfl⟩
   rw [e56] at hQ56
   obtain ⟨rfl, N56q, Kc56, Vc56⟩ := hQ56
   have N56 := Fr.app N55 N56q
   have K56 : Keep h0 h56 [] := K55.trans Kc56 (allS (Or.inr hz_b2) all0)
   have Z56 : n0 ≤ h56.size := Nat.le_trans Z55 Kc56.1
   have O56 := O55.keep Kc56 (allS g_b2 all0)
   have Vq56 : Arv Z h56 b2 k2 .char (own_L sv) ((own_pw sv (own_nd (own_n sv)) (own_tl sv) (own_base sv) 6).map Value.int) (.int 0) := Vc56
   refine own_st (T' := T56) (g' := (mkF m 293 #[vi sv, vi 1, vl (-(sv.toInt64)), .second, vi (Int32.ofNat (own_nd (own_n sv))), vi (own_L sv), vr b2] [])) st56 ?_
   refine own_st (T' := T56) (g' := (mkF m 305 #[vi sv, vi 1, vl (-(sv.toInt64)), .second, vi (Int32.ofNat (own_nd (own_n sv))), vi (own_L sv), vr b2] [(.long (1000000 : Int64)), (.int 6), (.int (Int32.ofNat (own_nd (own_n sv)))), (.long (-(sv.toInt64))), (.int (own_L sv)), (.ref b2)])) (fun t k => ?_) ?_
   ·refine XS.aload X56.here hx rfl (hb hby own_d39_293) rfl rfl ?_
    refine XS.iload X56.here hx rfl (hb hby own_d39_295) rfl ?_
    refine XS.lloadN X56.here hx rfl (hb hby own_d39_297) rfl ?_
    refine XS.iload X56.here hx rfl (hb hby own_d39_298) rfl ?_
    refine XS.bipush X56.here hx rfl (hb hby own_d39_300) ?_
    refine X56.ldc2Long hx hown (om hZ hw 222 rfl) (g := (mkF m 302 #[vi sv, vi 1, vl (-(sv.toInt64)), .second, vi (Int32.ofNat (own_nd (own_n sv))), vi (own_L sv), vr b2] [(.int 6), (.int (Int32.ofNat (own_nd (own_n sv)))), (.long (-(sv.toInt64))), (.int (own_L sv)), (.ref b2)])) rfl (hb hby own_d39_302) _ ?_
    exact k
   obtain ⟨_, _, ⟨T57, L57, c57, n57⟩, -, X57, ⟨Lc57, hQ57, l57, y57, z57⟩, st57⟩ := Jvm.LawKit.callS X56 hx (y := own_y30) hown (om hZ hw 215 rfl) (om hZ hw 216 rfl) (om hZ hw 208 rfl) (om hZ hw 217 rfl) (by decide) (backOf (W := 0) (own_rm41 l Z a0 hw b2 k2 (own_pw sv (own_nd (own_n sv)) (own_tl sv) (own_base sv) 6) (own_L sv) (-(sv.toInt64)) (Int32.ofNat (own_nd (own_n sv))) (6 : Int32) (1000000 : Int64) sv (own_tl sv) (own_nd (own_n sv)) 6 h56 n0 Z56 Vq56 g_b2 (by rw [own_pw_len, own_base_len]) (own_L_i sv) (own_tl_r sv).2 (own_av1 hneg) (own_ndi _) (by decide) (by decide) (own_dp sv)) hZ (own_w hw 217 rfl) (own_w hw 208 rfl) (by decide) (by decide)) (g := (mkF m 305 #[vi sv, vi 1, vl (-(sv.toInt64)), .second, vi (Int32.ofNat (own_nd (own_n sv))), vi (own_L sv), vr b2] [(.long (1000000 : Int64)), (.int 6), (.int (Int32.ofNat (own_nd (own_n sv)))), (.long (-(sv.toInt64))), (.int (own_L sv)), (.ref b2)])) rfl (by rw [hml]; rfl) (argsL := [(.ref b2), (.int (own_L sv)), (.long (-(sv.toInt64))), (.int (Int32.ofNat (own_nd (own_n sv)))), (.int 6), (.long (1000000 : Int64))]) (rest := []) (lenOf own_pd20 rfl) rfl (by show 2 * 0 + _ ≤ _; exact Nat.le_of_eq rfl) (hb hby own_d39_305) (fun _ _ => ⟨rfl, e56, (by decide : 1 + 0 ≤ _), (by decide : 33 + 0 ≤ _)⟩)
   dsimp only [Pt.U, Pt.locs, Pt.cells, Pt.slots] at X57 l57 y57 z57 st57 hQ57
   subst l57 y57 z57
   obtain ⟨h57, e57⟩ : ∃ z, T57.heap = z := ⟨_, rfl⟩
   rw [e57] at hQ57
   obtain ⟨rfl, N57q, Kc57, Vc57⟩ := hQ57
   have N57 := Fr.app N56 N57q
   have K57 : Keep h0 h57 [] := K56.trans Kc57 (allS (Or.inr hz_b2) all0)
   have Z57 : n0 ≤ h57.size := Nat.le_trans Z56 Kc57.1
   have O57 := O56.keep Kc57 (allS g_b2 all0)
   have Vq57 : Arv Z h57 b2 k2 .char (own_L sv) ((own_pw sv (own_nd (own_n sv)) (own_tl sv) (own_base sv) 7).map Value.int) (.int 0) := Vc57
   refine own_st (T' := T57) (g' := (mkF m 308 #[vi sv, vi 1, vl (-(sv.toInt64)), .second, vi (Int32.ofNat (own_nd (own_n sv))), vi (own_L sv), vr b2] [])) st57 ?_
   refine own_st (T' := T57) (g' := (mkF m 320 #[vi sv, vi 1, vl (-(sv.toInt64)), .second, vi (Int32.ofNat (own_nd (own_n sv))), vi (own_L sv), vr b2] [(.long (10000000 : Int64)), (.int 7), (.int (Int32.ofNat (own_nd (own_n sv)))), (.long (-(sv.toInt64))), (.int (own_L sv)), (.ref b2)])) (fun t k => ?_) ?_
   ·refine XS.aload X57.here hx rfl (hb hby own_d39_308) rfl rfl ?_
    refine XS.iload X57.here hx rfl (hb hby own_d39_310) rfl ?_
    refine XS.lloadN X57.here hx rfl (hb hby own_d39_312) rfl ?_
    refine XS.iload X57.here hx rfl (hb hby own_d39_313) rfl ?_
    refine XS.bipush X57.here hx rfl (hb hby own_d39_315) ?_
    refine X57.ldc2Long hx hown (om hZ hw 223 rfl) (g := (mkF m 317 #[vi sv, vi 1, vl (-(sv.toInt64)), .second, vi (Int32.ofNat (own_nd (own_n sv))), vi (own_L sv), vr b2] [(.int 7), (.int (Int32.ofNat (own_nd (own_n sv)))), (.long (-(sv.toInt64))), (.int (own_L sv)), (.ref b2)])) rfl (hb hby own_d39_317) _ ?_
    exact k
   obtain ⟨_, _, ⟨T58, L58, c58, n58⟩, -, X58, ⟨Lc58, hQ58, l58, y58, z58⟩, st58⟩ := Jvm.LawKit.callS X57 hx (y := own_y30) hown (om hZ hw 215 rfl) (om hZ hw 216 rfl) (om hZ hw 208 rfl) (om hZ hw 217 rfl) (by decide) (backOf (W := 0) (own_rm41 l Z a0 hw b2 k2 (own_pw sv (own_nd (own_n sv)) (own_tl sv) (own_base sv) 7) (own_L sv) (-(sv.toInt64)) (Int32.ofNat (own_nd (own_n sv))) (7 : Int32) (10000000 : Int64) sv (own_tl sv) (own_nd (own_n sv)) 7 h57 n0 Z57 Vq57 g_b2 (by rw [own_pw_len, own_base_len]) (own_L_i sv) (own_tl_r sv).2 (own_av1 hneg) (own_ndi _) (by decide) (by decide) (own_dp sv)) hZ (own_w hw 217 rfl) (own_w hw 208 rfl) (by decide) (by decide)) (g := (mkF m 320 #[vi sv, vi 1, vl (-(sv.toInt64)), .second, vi (Int32.ofNat (own_nd (own_n sv))), vi (own_L sv), vr b2] [(.long (10000000 : Int64)), (.int 7), (.int (Int32.ofNat (own_nd (own_n sv)))), (.long (-(sv.toInt64))), (.int (own_L sv)), (.ref b2)])) rfl (by rw [hml]; rfl) (argsL := [(.ref b2), (.int (own_L sv)), (.long (-(sv.toInt64))), (.int (Int32.ofNat (own_nd (own_n sv)))), (.int 7), (.long (10000000 : Int64))]) (rest := []) (lenOf own_pd20 rfl) rfl (by show 2 * 0 + _ ≤ _; exact Nat.le_of_eq rfl) (hb hby own_d39_320) (fun _ _ => ⟨rfl, e57, (by decide : 1 + 0 ≤ _), (by decide : 33 + 0 ≤ _)⟩)
   dsimp only [Pt.U, Pt.locs, Pt.cells, Pt.slots] at X58 l58 y58 z58 st58 hQ58
   subst l58 y58 z58
   obtain ⟨h58, e58⟩ : ∃ z, T58.heap = z := ⟨_, rfl⟩
   rw [e58] at hQ58
   obtain ⟨rfl, N58q, Kc58, Vc58⟩ := hQ58
   have N58 := Fr.app N57 N58q
   have K58 : Keep h0 h58 [] := K57.trans Kc58 (allS (Or.inr hz_b2) all0)
   have Z58 : n0 ≤ h58.size := Nat.le_trans Z57 Kc58.1
   have O58 := O57.keep Kc58 (allS g_b2 all0)
   have Vq58 : Arv Z h58 b2 k2 .char (own_L sv) ((own_pw sv (own_nd (own_n sv)) (own_tl sv) (own_base sv) 8).map Value.int) (.int 0) := Vc58
   refine own_st (T' := T58) (g' := (mkF m 323 #[vi sv, vi 1, vl (-(sv.toInt64)), .second, vi (Int32.ofNat (own_nd (own_n sv))), vi (own_L sv), vr b2] [])) st58 ?_
   refine own_st (T' := T58) (g' := (mkF m 335 #[vi sv, vi 1, vl (-(sv.toInt64)), .second, vi (Int32.ofNat (own_nd (own_n sv))), vi (own_L sv), vr b2] [(.long (100000000 : Int64)), (.int 8), (.int (Int32.ofNat (own_nd (own_n sv)))), (.long (-(sv.toInt64))), (.int (own_L sv)), (.ref b2)])) (fun t k => ?_) ?_
   ·refine XS.aload X58.here hx rfl (hb hby own_d39_323) rfl rfl ?_
    refine XS.iload X58.here hx rfl (hb hby own_d39_325) rfl ?_
    refine XS.lloadN X58.here hx rfl (hb hby own_d39_327) rfl ?_
    refine XS.iload X58.here hx rfl (hb hby own_d39_328) rfl ?_
    refine XS.bipush X58.here hx rfl (hb hby own_d39_330) ?_
    refine X58.ldc2Long hx hown (om hZ hw 224 rfl) (g := (mkF m 332 #[vi sv, vi 1, vl (-(sv.toInt64)), .second, vi (Int32.ofNat (own_nd (own_n sv))), vi (own_L sv), vr b2] [(.int 8), (.int (Int32.ofNat (own_nd (own_n sv)))), (.long (-(sv.toInt64))), (.int (own_L sv)), (.ref b2)])) rfl (hb hby own_d39_332) _ ?_
    exact k
   obtain ⟨_, _, ⟨T59, L59, c59, n59⟩, -, X59, ⟨Lc59, hQ59, l59, y59, z59⟩, st59⟩ := Jvm.LawKit.callS X58 hx (y := own_y30) hown (om hZ hw 215 rfl) (om hZ hw 216 rfl) (om hZ hw 208 rfl) (om hZ hw 217 rfl) (by decide) (backOf (W := 0) (own_rm41 l Z a0 hw b2 k2 (own_pw sv (own_nd (own_n sv)) (own_tl sv) (own_base sv) 8) (own_L sv) (-(sv.toInt64)) (Int32.ofNat (own_nd (own_n sv))) (8 : Int32) (100000000 : Int64) sv (own_tl sv) (own_nd (own_n sv)) 8 h58 n0 Z58 Vq58 g_b2 (by rw [own_pw_len, own_base_len]) (own_L_i sv) (own_tl_r sv).2 (own_av1 hneg) (own_ndi _) (by decide) (by decide) (own_dp sv)) hZ (own_w hw 217 rfl) (own_w hw 208 rfl) (by decide) (by decide)) (g := (mkF m 335 #[vi sv, vi 1, vl (-(sv.toInt64)), .second, vi (Int32.ofNat (own_nd (own_n sv))), vi (own_L sv), vr b2] [(.long (100000000 : Int64)), (.int 8), (.int (Int32.ofNat (own_nd (own_n sv)))), (.long (-(sv.toInt64))), (.int (own_L sv)), (.ref b2)])) rfl (by rw [hml]; rfl) (argsL := [(.ref b2), (.int (own_L sv)), (.long (-(sv.toInt64))), (.int (Int32.ofNat (own_nd (own_n sv)))), (.int 8), (.long (100000000 : Int64))]) (rest := []) (lenOf own_pd20 rfl) rfl (by show 2 * 0 + _ ≤ _; exact Nat.le_of_eq rfl) (hb hby own_d39_335) (fun _ _ => ⟨rfl, e58, (by decide : 1 + 0 ≤ _), (by decide : 33 + 0 ≤ _)⟩)
   dsimp only [Pt.U, Pt.locs, Pt.cells, Pt.slots] at X59 l59 y59 z59 st59 hQ59
   subst l59 y59 z59
   obtain ⟨h59, e59⟩ : ∃ z, T59.heap = z := ⟨_, rfl⟩
   rw [e59] at hQ59
   obtain ⟨rfl, N59q, Kc59, Vc59⟩ := hQ59
   have N59 := Fr.app N58 N59q
   have K59 : Keep h0 h59 [] := K58.trans Kc59 (allS (Or.inr hz_b2) all0)
   have Z59 : n0 ≤ h59.size := Nat.le_trans Z58 Kc59.1
   have O59 := O58.keep Kc59 (allS g_b2 all0)
   have Vq59 : Arv Z h59 b2 k2 .char (own_L sv) ((own_pw sv (own_nd (own_n sv)) (own_tl sv) (own_base sv) 9).map Value.int) (.int 0) := Vc59
   refine own_st (T' := T59) (g' := (mkF m 338 #[vi sv, vi 1, vl (-(sv.toInt64)), .second, vi (Int32.ofNat (own_nd (own_n sv))), vi (own_L sv), vr b2] [])) st59 ?_
   refine own_st (T' := T59) (g' := (mkF m 350 #[vi sv, vi 1, vl (-(sv.toInt64)), .second, vi (Int32.ofNat (own_nd (own_n sv))), vi (own_L sv), vr b2] [(.long (1000000000 : Int64)), (.int 9), (.int (Int32.ofNat (own_nd (own_n sv)))), (.long (-(sv.toInt64))), (.int (own_L sv)), (.ref b2)])) (fun t k => ?_) ?_
   ·refine XS.aload X59.here hx rfl (hb hby own_d39_338) rfl rfl ?_
    refine XS.iload X59.here hx rfl (hb hby own_d39_340) rfl ?_
    refine XS.lloadN X59.here hx rfl (hb hby own_d39_342) rfl ?_
    refine XS.iload X59.here hx rfl (hb hby own_d39_343) rfl ?_
    refine XS.bipush X59.here hx rfl (hb hby own_d39_345) ?_
    refine X59.ldc2Long hx hown (om hZ hw 225 rfl) (g := (mkF m 347 #[vi sv, vi 1, vl (-(sv.toInt64)), .second, vi (Int32.ofNat (own_nd (own_n sv))), vi (own_L sv), vr b2] [(.int 9), (.int (Int32.ofNat (own_nd (own_n sv)))), (.long (-(sv.toInt64))), (.int (own_L sv)), (.ref b2)])) rfl (hb hby own_d39_347) _ ?_
    exact k
   obtain ⟨_, _, ⟨T60, L60, c60, n60⟩, -, X60, ⟨Lc60, hQ60, l60, y60, z60⟩, st60⟩ := Jvm.LawKit.callS X59 hx (y := own_y30) hown (om hZ hw 215 rfl) (om hZ hw 216 rfl) (om hZ hw 208 rfl) (om hZ hw 217 rfl) (by decide) (backOf (W := 0) (own_rm41 l Z a0 hw b2 k2 (own_pw sv (own_nd (own_n sv)) (own_tl sv) (own_base sv) 9) (own_L sv) (-(sv.toInt64)) (Int32.ofNat (own_nd (own_n sv))) (9 : Int32) (1000000000 : Int64) sv (own_tl sv) (own_nd (own_n sv)) 9 h59 n0 Z59 Vq59 g_b2 (by rw [own_pw_len, own_base_len]) (own_L_i sv) (own_tl_r sv).2 (own_av1 hneg) (own_ndi _) (by decide) (by decide) (own_dp sv)) hZ (own_w hw 217 rfl) (own_w hw 208 rfl) (by decide) (by decide)) (g := (mkF m 350 #[vi sv, vi 1, vl (-(sv.toInt64)), .second, vi (Int32.ofNat (own_nd (own_n sv))), vi (own_L sv), vr b2] [(.long (1000000000 : Int64)), (.int 9), (.int (Int32.ofNat (own_nd (own_n sv)))), (.long (-(sv.toInt64))), (.int (own_L sv)), (.ref b2)])) rfl (by rw [hml]; rfl) (argsL := [(.ref b2), (.int (own_L sv)), (.long (-(sv.toInt64))), (.int (Int32.ofNat (own_nd (own_n sv)))), (.int 9), (.long (1000000000 : Int64))]) (rest := []) (lenOf own_pd20 rfl) rfl (by show 2 * 0 + _ ≤ _; exact Nat.le_of_eq rfl) (hb hby own_d39_350) (fun _ _ => ⟨rfl, e59, (by decide : 1 + 0 ≤ _), (by decide : 33 + 0 ≤ _)⟩)
   dsimp only [Pt.U, Pt.locs, Pt.cells, Pt.slots] at X60 l60 y60 z60 st60 hQ60
   subst l60 y60 z60
   obtain ⟨h60, e60⟩ : ∃ z, T60.heap = z := ⟨_, rfl⟩
   rw [e60] at hQ60
   obtain ⟨rfl, N60q, Kc60, Vc60⟩ := hQ60
   have N60 := Fr.app N59 N60q
   have K60 : Keep h0 h60 [] := K59.trans Kc60 (allS (Or.inr hz_b2) all0)
   have Z60 : n0 ≤ h60.size := Nat.le_trans Z59 Kc60.1
   have O60 := O59.keep Kc60 (allS g_b2 all0)
   have Vq60 : Arv Z h60 b2 k2 .char (own_L sv) ((own_pw sv (own_nd (own_n sv)) (own_tl sv) (own_base sv) 10).map Value.int) (.int 0) := Vc60
   refine own_st (T' := T60) (g' := (mkF m 353 #[vi sv, vi 1, vl (-(sv.toInt64)), .second, vi (Int32.ofNat (own_nd (own_n sv))), vi (own_L sv), vr b2] [])) st60 ?_
   obtain ⟨T61, h61, X61, e61, E61, A61, D61, U61, st61⟩ := newO X60 hx hZ hown (own_w hw 226 rfl) (own_w hw 39 rfl) (own_w hw 32 rfl) e60 (g := (mkF m 353 #[vi sv, vi 1, vl (-(sv.toInt64)), .second, vi (Int32.ofNat (own_nd (own_n sv))), vi (own_L sv), vr b2] [])) rfl (hb hby own_d39_353) (by decide) (by decide)
   obtain ⟨b61, g61⟩ : ∃ z, z = h60.size := ⟨_, rfl⟩
   rw [← g61] at A61 D61 U61 st61
   have sz61 : h60.size ≤ b61 := Nat.le_of_eq g61.symm
   have ne_b2_b61 : b2 ≠ b61 := Nat.ne_of_lt (Nat.lt_of_lt_of_le Vq60.lt sz61)
   have g_b61 : n0 ≤ b61 := Nat.le_trans Z60 sz61
   have hz_b61 : h0.size ≤ b61 := Nat.le_trans K60.1 sz61
   have K61 : Keep h0 h61 [] := K60.ext E61
   have Z61 : n0 ≤ h61.size := Nat.le_trans Z60 E61.1
   have O61 := O60.ext E61
   refine own_st (T' := T61) (g' := (mkF m 356 #[vi sv, vi 1, vl (-(sv.toInt64)), .second, vi (Int32.ofNat (own_nd (own_n sv))), vi (own_L sv), vr b2] [(.ref b61)])) st61 ?_
   refine own_st (T' := T61) (g' := (mkF m 359 #[vi sv, vi 1, vl (-(sv.toInt64)), .second, vi (Int32.ofNat (own_nd (own_n sv))), vi (own_L sv), vr b2] [(.ref b2), (.ref b61), (.ref b61)])) (fun t k => ?_) ?_
   ·refine XS.dup X61.here hx rfl (hb hby own_d39_356) rfl rfl ?_
    refine XS.aload X61.here hx rfl (hb hby own_d39_357) rfl rfl ?_
    exact k
   have f62 := Vq60.ext E61
   have f63 := S_cs.ext O61.2
   obtain ⟨_, _, ⟨T64, L64, c64, n64⟩, -, X64, ⟨Lc64, hQ64, l64, y64, z64⟩, st64⟩ := X61.specialBack hx (y := own_y32) rfl hown (om hZ hw 227 rfl) (om hZ hw 228 rfl) (om hZ hw 229 rfl) (by decide) (own_bmore (Qv := StrChars.Road.QV Z b61 (own_L sv) ((own_exp sv).map fun c => c.toInt8.toInt32) h61 n0) (StrChars.Road.backV (W := 1) hZ hwv (kI := 4) (own_w hw 39 rfl) (cs := own_exp sv) (bs := ((own_exp sv).map fun c => c.toInt8.toInt32)) (n := own_tl sv) g_b61 Z61 A61 (D61 (Or.inr (own_w hw 40 rfl)) (ty := (.array .byte)) (by decide) : Fld Z h61 b61 "java/lang/String" "value" "[B" .null) (D61 (Or.inr (own_w hw 41 rfl)) (ty := .byte) (by decide) : Fld Z h61 b61 "java/lang/String" "coder" "B" (.int 0)) f62 f63 hcs (own_exp_len sv) rfl (Nat.lt_of_lt_of_le (by decide) (own_tl_r sv).1) (Nat.le_trans (own_tl_r sv).2 (by decide)) (own_hb2 (own_G_exp sv)) rfl (by decide) (by decide)) (own_tl_r sv).2) (g := (mkF m 359 #[vi sv, vi 1, vl (-(sv.toInt64)), .second, vi (Int32.ofNat (own_nd (own_n sv))), vi (own_L sv), vr b2] [(.ref b2), (.ref b61), (.ref b61)])) rfl (by rw [hml]; rfl) (Steps.refl _) (a := b61) (argsL := [(.ref b2)]) (rest := [(.ref b61)]) (lenOf own_pd21 rfl) rfl (by show 2 * 0 + _ ≤ _; exact Nat.le_of_eq rfl) (hb hby own_d39_359) (fun _ _ => ⟨rfl, e61, (by decide : 2 + 1 ≤ _), (by decide : 37 + 33 ≤ _)⟩)
   dsimp only [Pt.U, Pt.locs, Pt.cells, Pt.slots] at X64 l64 y64 z64 st64 hQ64
   subst l64 y64 z64
   obtain ⟨h64, e64⟩ : ∃ z, T64.heap = z := ⟨_, rfl⟩
   rw [e64] at hQ64
   obtain ⟨rfl, N64q, Kc64, -, Cc64, t64, kb64, g64, hz64, -, Fv64, Vc64⟩ := hQ64
   have N64 := Fr.app N60 N64q
   have ne_b2_t64 : b2 ≠ t64 := Nat.ne_of_lt (Nat.lt_of_lt_of_le f62.lt hz64)
   have ne_b61_t64 : b61 ≠ t64 := Nat.ne_of_lt (Nat.lt_of_lt_of_le A61.lt hz64)
   have hwt64 : h0.size ≤ t64 := Nat.le_trans K61.1 hz64
   have K64 : Keep h0 h64 [] := K61.trans Kc64 (allS (Or.inr hz_b61) all0)
   have Z64 : n0 ≤ h64.size := Nat.le_trans Z61 Kc64.1
   have O64 := O61.keep Kc64 (allS g_b61 all0)
   refine own_tr (T' := T64) (g' := (mkF m 362 #[vi sv, vi 1, vl (-(sv.toInt64)), .second, vi (Int32.ofNat (own_nd (own_n sv))), vi (own_L sv), vr b2] [(.ref b61)])) st64 ?_
   have f65 := A61.keep Kc64
   exact own_retA X64 hx Bd rfl rfl (hb hby own_d39_362) e64 (⟨b61, t64, kb64, rfl, N64, K64, f65, Cc64, Fv64, Vc64⟩) (by decide) (by decide)
  exact Jq T48 _ X48 N48 e48
 ·refine own_st (T' := s₁) (g' := (mkF m 24 #[vi sv, vi 0, vl (sv.toInt64), .second, .unset, .unset, .unset] [(.long (sv.toInt64))])) (fun t k => ?_) ?_
  ·refine XS.ifYes X0.here hx rfl (pc0 := 1) (pc' := 8) rfl (hb hby own_d39_1) rfl ((if0 _ _).trans (flt hneg).2.1) (by decide) (by decide) ?_
   refine XS.iconst X0.here hx rfl (hb hby own_d39_8) ?_
   refine XS.istoreN X0.here hx rfl (hb hby own_d39_9) rfl (l' := #[vi sv, vi 0, .unset, .unset, .unset, .unset, .unset]) rfl ?_
   refine XS.iloadN X0.here hx rfl (hb hby own_d39_10) rfl ?_
   refine XS.ifYes X0.here hx rfl (pc0 := 11) (pc' := 20) rfl (hb hby own_d39_11) rfl ((if0 _ _).trans (teq (rfl : (0 : Int32) = (0 : Int32))).1) (by decide) (by decide) ?_
   refine XS.iloadN X0.here hx rfl (hb hby own_d39_20) rfl ?_
   refine XS.i2l X0.here hx rfl (hb hby own_d39_21) rfl ?_
   refine XS.lstoreN X0.here hx rfl (hb hby own_d39_22) rfl (l' := #[vi sv, vi 0, vl (sv.toInt64), .second, .unset, .unset, .unset]) rfl ?_
   refine XS.lloadN X0.here hx rfl (hb hby own_d39_23) rfl ?_
   exact k
  obtain ⟨_, _, ⟨T66, L66, c66, n66⟩, -, X66, ⟨Lc66, hQ66, l66, y66, z66⟩, st66⟩ := Jvm.LawKit.callS X0 hx (y := own_y2) hown (om hZ hw 210 rfl) (om hZ hw 211 rfl) (om hZ hw 208 rfl) (om hZ hw 212 rfl) (by decide) (backOf (W := 0) (own_rm40 l Z a0 hw (sv.toInt64) (own_n sv) h0 n0 Z0 (own_av0 hneg)) hZ (own_w hw 212 rfl) (own_w hw 208 rfl) (by decide) (by decide)) (g := (mkF m 24 #[vi sv, vi 0, vl (sv.toInt64), .second, .unset, .unset, .unset] [(.long (sv.toInt64))])) rfl (by rw [hml]; rfl) (argsL := [(.long (sv.toInt64))]) (rest := []) (lenOf own_pd19 rfl) rfl (by show 2 * 0 + _ ≤ _; exact Nat.le_of_eq rfl) (hb hby own_d39_24) (fun _ _ => ⟨rfl, e0, (by decide : 0 + 0 ≤ _), (by decide : 0 + 0 ≤ _)⟩)
  dsimp only [Pt.U, Pt.locs, Pt.cells, Pt.slots] at X66 l66 y66 z66 st66 hQ66
  subst l66 y66 z66
  obtain ⟨rfl, N66q, e66⟩ := hQ66
  have N66 := Fr.app N0 N66q
  refine own_st (T' := T66) (g' := (mkF m 27 #[vi sv, vi 0, vl (sv.toInt64), .second, .unset, .unset, .unset] [(.int (Int32.ofNat (own_nd (own_n sv))))])) st66 ?_
  refine own_st (T' := T66) (g' := (mkF m 44 #[vi sv, vi 0, vl (sv.toInt64), .second, vi (Int32.ofNat (own_nd (own_n sv))), .unset, .unset] [(.int ((22 : Int32) + (Int32.ofNat (own_nd (own_n sv)))))])) (fun t k => ?_) ?_
  ·refine XS.istore X66.here hx rfl (hb hby own_d39_27) rfl (l' := #[vi sv, vi 0, vl (sv.toInt64), .second, vi (Int32.ofNat (own_nd (own_n sv))), .unset, .unset]) rfl ?_
   refine XS.bipush X66.here hx rfl (hb hby own_d39_29) ?_
   refine XS.iloadN X66.here hx rfl (hb hby own_d39_31) rfl ?_
   refine XS.ifYes X66.here hx rfl (pc0 := 32) (pc' := 39) rfl (hb hby own_d39_32) rfl ((if0 _ _).trans (teq (rfl : (0 : Int32) = (0 : Int32))).1) (by decide) (by decide) ?_
   refine XS.iconst X66.here hx rfl (hb hby own_d39_39) ?_
   refine XS.iadd X66.here hx rfl (hb hby own_d39_40) rfl ?_
   refine XS.iload X66.here hx rfl (hb hby own_d39_41) rfl ?_
   refine XS.iadd X66.here hx rfl (hb hby own_d39_43) rfl ?_
   exact k
  rw [show ((22 : Int32) + (Int32.ofNat (own_nd (own_n sv)))) = (own_L sv) from own_22n hneg]
  refine own_st (T' := T66) (g' := (mkF m 48 #[vi sv, vi 0, vl (sv.toInt64), .second, vi (Int32.ofNat (own_nd (own_n sv))), vi (own_L sv), .unset] [(.int (own_L sv))])) (fun t k => ?_) ?_
  ·refine XS.istore X66.here hx rfl (hb hby own_d39_44) rfl (l' := #[vi sv, vi 0, vl (sv.toInt64), .second, vi (Int32.ofNat (own_nd (own_n sv))), vi (own_L sv), .unset]) rfl ?_
   refine XS.iload X66.here hx rfl (hb hby own_d39_46) rfl ?_
   exact k
  obtain ⟨T67, h67, k67, X67, e67, E67, A67, st67⟩ := newP X66 hx hZ (own_w hw 214 rfl) e66 (g := (mkF m 48 #[vi sv, vi 0, vl (sv.toInt64), .second, vi (Int32.ofNat (own_nd (own_n sv))), vi (own_L sv), .unset] [(.int (own_L sv))])) rfl (hb hby own_d39_48) rfl (own_L0 sv) (cap := 33) (own_L33 sv) (by decide) (by decide) (by decide)
  obtain ⟨b67, g67⟩ : ∃ z, z = h0.size := ⟨_, rfl⟩
  rw [← g67] at A67 st67
  have sz67 : h0.size ≤ b67 := Nat.le_of_eq g67.symm
  have g_b67 : n0 ≤ b67 := Nat.le_trans Z0 sz67
  have hz_b67 : h0.size ≤ b67 := Nat.le_trans (Keep.refl h0 []).1 sz67
  have K67 : Keep h0 h67 [] := (Keep.refl h0 []).ext E67
  have Z67 : n0 ≤ h67.size := Nat.le_trans Z0 E67.1
  have O67 := O0.ext E67
  have V67 : Arv Z h67 b67 k67 .char (own_L sv) [] (.int 0) := Arv.new A67 (own_L0 sv)
  refine own_st (T' := T67) (g' := (mkF m 50 #[vi sv, vi 0, vl (sv.toInt64), .second, vi (Int32.ofNat (own_nd (own_n sv))), vi (own_L sv), .unset] [(.ref b67)])) st67 ?_
  have Vp67 := own_lpad (own_tl sv) V67
  have Vx67 : Arv Z h67 b67 k67 .char (own_L sv) ((own_ex (own_tl sv) 0).map Value.int) (.int 0) := Vp67
  refine own_st (T' := T67) (g' := (mkF m 57 #[vi sv, vi 0, vl (sv.toInt64), .second, vi (Int32.ofNat (own_nd (own_n sv))), vi (own_L sv), vr b67] [(.int 116), (.int 0), (.ref b67)])) (fun t k => ?_) ?_
  ·refine XS.astore X67.here hx rfl (hb hby own_d39_50) rfl rfl (l' := #[vi sv, vi 0, vl (sv.toInt64), .second, vi (Int32.ofNat (own_nd (own_n sv))), vi (own_L sv), vr b67]) rfl ?_
   refine XS.aload X67.here hx rfl (hb hby own_d39_52) rfl rfl ?_
   refine XS.iconst X67.here hx rfl (hb hby own_d39_54) ?_
   refine XS.bipush X67.here hx rfl (hb hby own_d39_55) ?_
   exact k
  obtain ⟨cl68, Ar68, q68, S68, M68, H68, G68⟩ := id Vx67
  obtain ⟨T69, h69, X69, e69, W69, st69⟩ := stC X67 hx hZ e67 Ar68 (j := (0 : Int32)) (inb_of S68 (own_inx sv (by decide) (by decide))) (g := (mkF m 57 #[vi sv, vi 0, vl (sv.toInt64), .second, vi (Int32.ofNat (own_nd (own_n sv))), vi (own_L sv), vr b67] [(.int 116), (.int 0), (.ref b67)])) rfl rfl (hb hby own_d39_57)
  have N69 := Fr.snoc X69 N66 g_b67
  have K69 : Keep h0 h69 [] := K67.wr W69 (Or.inr hz_b67)
  have Z69 : n0 ≤ h69.size := Nat.le_trans Z67 (Keep.of_wr W69).1
  have O69 := O67.wr W69 g_b67
  have fw69 := (show Arv Z h69 b67 k67 .char (own_L sv) (((own_ex (own_tl sv) 0).set ((0 : Int32)).toNatClampNeg (116 : Int32)).map Value.int) (.int 0) by have q := Arv.set Ar68 q68 S68 M68 H68 G68 (fits_nar_char _) W69 (((0 : Int32)).toNatClampNeg) rfl (own_lx sv (own_ex_len _ _) (by decide)); rw [own_lset] at q; exact q)
  rw [own_xs0] at fw69
  refine own_st (T' := T69) (g' := (mkF m 58 #[vi sv, vi 0, vl (sv.toInt64), .second, vi (Int32.ofNat (own_nd (own_n sv))), vi (own_L sv), vr b67] [])) st69 ?_
  refine own_st (T' := T69) (g' := (mkF m 63 #[vi sv, vi 0, vl (sv.toInt64), .second, vi (Int32.ofNat (own_nd (own_n sv))), vi (own_L sv), vr b67] [(.int 104), (.int 1), (.ref b67)])) (fun t k => ?_) ?_
  ·refine XS.aload X69.here hx rfl (hb hby own_d39_58) rfl rfl ?_
   refine XS.iconst X69.here hx rfl (hb hby own_d39_60) ?_
   refine XS.bipush X69.here hx rfl (hb hby own_d39_61) ?_
   exact k
  obtain ⟨cl70, Ar70, q70, S70, M70, H70, G70⟩ := id fw69
  obtain ⟨T71, h71, X71, e71, W71, st71⟩ := stC X69 hx hZ e69 Ar70 (j := (1 : Int32)) (inb_of S70 (own_inx sv (by decide) (by decide))) (g := (mkF m 63 #[vi sv, vi 0, vl (sv.toInt64), .second, vi (Int32.ofNat (own_nd (own_n sv))), vi (own_L sv), vr b67] [(.int 104), (.int 1), (.ref b67)])) rfl rfl (hb hby own_d39_63)
  have N71 := Fr.snoc X71 N69 g_b67
  have K71 : Keep h0 h71 [] := K69.wr W71 (Or.inr hz_b67)
  have Z71 : n0 ≤ h71.size := Nat.le_trans Z69 (Keep.of_wr W71).1
  have O71 := O69.wr W71 g_b67
  have fw71 := (show Arv Z h71 b67 k67 .char (own_L sv) (((own_ex (own_tl sv) 1).set ((1 : Int32)).toNatClampNeg (104 : Int32)).map Value.int) (.int 0) by have q := Arv.set Ar70 q70 S70 M70 H70 G70 (fits_nar_char _) W71 (((1 : Int32)).toNatClampNeg) rfl (own_lx sv (own_ex_len _ _) (by decide)); rw [own_lset] at q; exact q)
  rw [own_xs1] at fw71
  refine own_st (T' := T71) (g' := (mkF m 64 #[vi sv, vi 0, vl (sv.toInt64), .second, vi (Int32.ofNat (own_nd (own_n sv))), vi (own_L sv), vr b67] [])) st71 ?_
  refine own_st (T' := T71) (g' := (mkF m 69 #[vi sv, vi 0, vl (sv.toInt64), .second, vi (Int32.ofNat (own_nd (own_n sv))), vi (own_L sv), vr b67] [(.int 101), (.int 2), (.ref b67)])) (fun t k => ?_) ?_
  ·refine XS.aload X71.here hx rfl (hb hby own_d39_64) rfl rfl ?_
   refine XS.iconst X71.here hx rfl (hb hby own_d39_66) ?_
   refine XS.bipush X71.here hx rfl (hb hby own_d39_67) ?_
   exact k
  obtain ⟨cl72, Ar72, q72, S72, M72, H72, G72⟩ := id fw71
  obtain ⟨T73, h73, X73, e73, W73, st73⟩ := stC X71 hx hZ e71 Ar72 (j := (2 : Int32)) (inb_of S72 (own_inx sv (by decide) (by decide))) (g := (mkF m 69 #[vi sv, vi 0, vl (sv.toInt64), .second, vi (Int32.ofNat (own_nd (own_n sv))), vi (own_L sv), vr b67] [(.int 101), (.int 2), (.ref b67)])) rfl rfl (hb hby own_d39_69)
  have N73 := Fr.snoc X73 N71 g_b67
  have K73 : Keep h0 h73 [] := K71.wr W73 (Or.inr hz_b67)
  have Z73 : n0 ≤ h73.size := Nat.le_trans Z71 (Keep.of_wr W73).1
  have O73 := O71.wr W73 g_b67
  have fw73 := (show Arv Z h73 b67 k67 .char (own_L sv) (((own_ex (own_tl sv) 2).set ((2 : Int32)).toNatClampNeg (101 : Int32)).map Value.int) (.int 0) by have q := Arv.set Ar72 q72 S72 M72 H72 G72 (fits_nar_char _) W73 (((2 : Int32)).toNatClampNeg) rfl (own_lx sv (own_ex_len _ _) (by decide)); rw [own_lset] at q; exact q)
  rw [own_xs2] at fw73
  refine own_st (T' := T73) (g' := (mkF m 70 #[vi sv, vi 0, vl (sv.toInt64), .second, vi (Int32.ofNat (own_nd (own_n sv))), vi (own_L sv), vr b67] [])) st73 ?_
  refine own_st (T' := T73) (g' := (mkF m 75 #[vi sv, vi 0, vl (sv.toInt64), .second, vi (Int32.ofNat (own_nd (own_n sv))), vi (own_L sv), vr b67] [(.int 32), (.int 3), (.ref b67)])) (fun t k => ?_) ?_
  ·refine XS.aload X73.here hx rfl (hb hby own_d39_70) rfl rfl ?_
   refine XS.iconst X73.here hx rfl (hb hby own_d39_72) ?_
   refine XS.bipush X73.here hx rfl (hb hby own_d39_73) ?_
   exact k
  obtain ⟨cl74, Ar74, q74, S74, M74, H74, G74⟩ := id fw73
  obtain ⟨T75, h75, X75, e75, W75, st75⟩ := stC X73 hx hZ e73 Ar74 (j := (3 : Int32)) (inb_of S74 (own_inx sv (by decide) (by decide))) (g := (mkF m 75 #[vi sv, vi 0, vl (sv.toInt64), .second, vi (Int32.ofNat (own_nd (own_n sv))), vi (own_L sv), vr b67] [(.int 32), (.int 3), (.ref b67)])) rfl rfl (hb hby own_d39_75)
  have N75 := Fr.snoc X75 N73 g_b67
  have K75 : Keep h0 h75 [] := K73.wr W75 (Or.inr hz_b67)
  have Z75 : n0 ≤ h75.size := Nat.le_trans Z73 (Keep.of_wr W75).1
  have O75 := O73.wr W75 g_b67
  have fw75 := (show Arv Z h75 b67 k67 .char (own_L sv) (((own_ex (own_tl sv) 3).set ((3 : Int32)).toNatClampNeg (32 : Int32)).map Value.int) (.int 0) by have q := Arv.set Ar74 q74 S74 M74 H74 G74 (fits_nar_char _) W75 (((3 : Int32)).toNatClampNeg) rfl (own_lx sv (own_ex_len _ _) (by decide)); rw [own_lset] at q; exact q)
  rw [own_xs3] at fw75
  refine own_st (T' := T75) (g' := (mkF m 76 #[vi sv, vi 0, vl (sv.toInt64), .second, vi (Int32.ofNat (own_nd (own_n sv))), vi (own_L sv), vr b67] [])) st75 ?_
  refine own_st (T' := T75) (g' := (mkF m 81 #[vi sv, vi 0, vl (sv.toInt64), .second, vi (Int32.ofNat (own_nd (own_n sv))), vi (own_L sv), vr b67] [(.int 114), (.int 4), (.ref b67)])) (fun t k => ?_) ?_
  ·refine XS.aload X75.here hx rfl (hb hby own_d39_76) rfl rfl ?_
   refine XS.iconst X75.here hx rfl (hb hby own_d39_78) ?_
   refine XS.bipush X75.here hx rfl (hb hby own_d39_79) ?_
   exact k
  obtain ⟨cl76, Ar76, q76, S76, M76, H76, G76⟩ := id fw75
  obtain ⟨T77, h77, X77, e77, W77, st77⟩ := stC X75 hx hZ e75 Ar76 (j := (4 : Int32)) (inb_of S76 (own_inx sv (by decide) (by decide))) (g := (mkF m 81 #[vi sv, vi 0, vl (sv.toInt64), .second, vi (Int32.ofNat (own_nd (own_n sv))), vi (own_L sv), vr b67] [(.int 114), (.int 4), (.ref b67)])) rfl rfl (hb hby own_d39_81)
  have N77 := Fr.snoc X77 N75 g_b67
  have K77 : Keep h0 h77 [] := K75.wr W77 (Or.inr hz_b67)
  have Z77 : n0 ≤ h77.size := Nat.le_trans Z75 (Keep.of_wr W77).1
  have O77 := O75.wr W77 g_b67
  have fw77 := (show Arv Z h77 b67 k67 .char (own_L sv) (((own_ex (own_tl sv) 4).set ((4 : Int32)).toNatClampNeg (114 : Int32)).map Value.int) (.int 0) by have q := Arv.set Ar76 q76 S76 M76 H76 G76 (fits_nar_char _) W77 (((4 : Int32)).toNatClampNeg) rfl (own_lx sv (own_ex_len _ _) (by decide)); rw [own_lset] at q; exact q)
  rw [own_xs4] at fw77
  refine own_st (T' := T77) (g' := (mkF m 82 #[vi sv, vi 0, vl (sv.toInt64), .second, vi (Int32.ofNat (own_nd (own_n sv))), vi (own_L sv), vr b67] [])) st77 ?_
  refine own_st (T' := T77) (g' := (mkF m 87 #[vi sv, vi 0, vl (sv.toInt64), .second, vi (Int32.ofNat (own_nd (own_n sv))), vi (own_L sv), vr b67] [(.int 101), (.int 5), (.ref b67)])) (fun t k => ?_) ?_
  ·refine XS.aload X77.here hx rfl (hb hby own_d39_82) rfl rfl ?_
   refine XS.iconst X77.here hx rfl (hb hby own_d39_84) ?_
   refine XS.bipush X77.here hx rfl (hb hby own_d39_85) ?_
   exact k
  obtain ⟨cl78, Ar78, q78, S78, M78, H78, G78⟩ := id fw77
  obtain ⟨T79, h79, X79, e79, W79, st79⟩ := stC X77 hx hZ e77 Ar78 (j := (5 : Int32)) (inb_of S78 (own_inx sv (by decide) (by decide))) (g := (mkF m 87 #[vi sv, vi 0, vl (sv.toInt64), .second, vi (Int32.ofNat (own_nd (own_n sv))), vi (own_L sv), vr b67] [(.int 101), (.int 5), (.ref b67)])) rfl rfl (hb hby own_d39_87)
  have N79 := Fr.snoc X79 N77 g_b67
  have K79 : Keep h0 h79 [] := K77.wr W79 (Or.inr hz_b67)
  have Z79 : n0 ≤ h79.size := Nat.le_trans Z77 (Keep.of_wr W79).1
  have O79 := O77.wr W79 g_b67
  have fw79 := (show Arv Z h79 b67 k67 .char (own_L sv) (((own_ex (own_tl sv) 5).set ((5 : Int32)).toNatClampNeg (101 : Int32)).map Value.int) (.int 0) by have q := Arv.set Ar78 q78 S78 M78 H78 G78 (fits_nar_char _) W79 (((5 : Int32)).toNatClampNeg) rfl (own_lx sv (own_ex_len _ _) (by decide)); rw [own_lset] at q; exact q)
  rw [own_xs5] at fw79
  refine own_st (T' := T79) (g' := (mkF m 88 #[vi sv, vi 0, vl (sv.toInt64), .second, vi (Int32.ofNat (own_nd (own_n sv))), vi (own_L sv), vr b67] [])) st79 ?_
  refine own_st (T' := T79) (g' := (mkF m 94 #[vi sv, vi 0, vl (sv.toInt64), .second, vi (Int32.ofNat (own_nd (own_n sv))), vi (own_L sv), vr b67] [(.int 99), (.int 6), (.ref b67)])) (fun t k => ?_) ?_
  ·refine XS.aload X79.here hx rfl (hb hby own_d39_88) rfl rfl ?_
   refine XS.bipush X79.here hx rfl (hb hby own_d39_90) ?_
   refine XS.bipush X79.here hx rfl (hb hby own_d39_92) ?_
   exact k
  obtain ⟨cl80, Ar80, q80, S80, M80, H80, G80⟩ := id fw79
  obtain ⟨T81, h81, X81, e81, W81, st81⟩ := stC X79 hx hZ e79 Ar80 (j := (6 : Int32)) (inb_of S80 (own_inx sv (by decide) (by decide))) (g := (mkF m 94 #[vi sv, vi 0, vl (sv.toInt64), .second, vi (Int32.ofNat (own_nd (own_n sv))), vi (own_L sv), vr b67] [(.int 99), (.int 6), (.ref b67)])) rfl rfl (hb hby own_d39_94)
  have N81 := Fr.snoc X81 N79 g_b67
  have K81 : Keep h0 h81 [] := K79.wr W81 (Or.inr hz_b67)
  have Z81 : n0 ≤ h81.size := Nat.le_trans Z79 (Keep.of_wr W81).1
  have O81 := O79.wr W81 g_b67
  have fw81 := (show Arv Z h81 b67 k67 .char (own_L sv) (((own_ex (own_tl sv) 6).set ((6 : Int32)).toNatClampNeg (99 : Int32)).map Value.int) (.int 0) by have q := Arv.set Ar80 q80 S80 M80 H80 G80 (fits_nar_char _) W81 (((6 : Int32)).toNatClampNeg) rfl (own_lx sv (own_ex_len _ _) (by decide)); rw [own_lset] at q; exact q)
  rw [own_xs6] at fw81
  refine own_st (T' := T81) (g' := (mkF m 95 #[vi sv, vi 0, vl (sv.toInt64), .second, vi (Int32.ofNat (own_nd (own_n sv))), vi (own_L sv), vr b67] [])) st81 ?_
  refine own_st (T' := T81) (g' := (mkF m 101 #[vi sv, vi 0, vl (sv.toInt64), .second, vi (Int32.ofNat (own_nd (own_n sv))), vi (own_L sv), vr b67] [(.int 101), (.int 7), (.ref b67)])) (fun t k => ?_) ?_
  ·refine XS.aload X81.here hx rfl (hb hby own_d39_95) rfl rfl ?_
   refine XS.bipush X81.here hx rfl (hb hby own_d39_97) ?_
   refine XS.bipush X81.here hx rfl (hb hby own_d39_99) ?_
   exact k
  obtain ⟨cl82, Ar82, q82, S82, M82, H82, G82⟩ := id fw81
  obtain ⟨T83, h83, X83, e83, W83, st83⟩ := stC X81 hx hZ e81 Ar82 (j := (7 : Int32)) (inb_of S82 (own_inx sv (by decide) (by decide))) (g := (mkF m 101 #[vi sv, vi 0, vl (sv.toInt64), .second, vi (Int32.ofNat (own_nd (own_n sv))), vi (own_L sv), vr b67] [(.int 101), (.int 7), (.ref b67)])) rfl rfl (hb hby own_d39_101)
  have N83 := Fr.snoc X83 N81 g_b67
  have K83 : Keep h0 h83 [] := K81.wr W83 (Or.inr hz_b67)
  have Z83 : n0 ≤ h83.size := Nat.le_trans Z81 (Keep.of_wr W83).1
  have O83 := O81.wr W83 g_b67
  have fw83 := (show Arv Z h83 b67 k67 .char (own_L sv) (((own_ex (own_tl sv) 7).set ((7 : Int32)).toNatClampNeg (101 : Int32)).map Value.int) (.int 0) by have q := Arv.set Ar82 q82 S82 M82 H82 G82 (fits_nar_char _) W83 (((7 : Int32)).toNatClampNeg) rfl (own_lx sv (own_ex_len _ _) (by decide)); rw [own_lset] at q; exact q)
  rw [own_xs7] at fw83
  refine own_st (T' := T83) (g' := (mkF m 102 #[vi sv, vi 0, vl (sv.toInt64), .second, vi (Int32.ofNat (own_nd (own_n sv))), vi (own_L sv), vr b67] [])) st83 ?_
  refine own_st (T' := T83) (g' := (mkF m 108 #[vi sv, vi 0, vl (sv.toInt64), .second, vi (Int32.ofNat (own_nd (own_n sv))), vi (own_L sv), vr b67] [(.int 105), (.int 8), (.ref b67)])) (fun t k => ?_) ?_
  ·refine XS.aload X83.here hx rfl (hb hby own_d39_102) rfl rfl ?_
   refine XS.bipush X83.here hx rfl (hb hby own_d39_104) ?_
   refine XS.bipush X83.here hx rfl (hb hby own_d39_106) ?_
   exact k
  obtain ⟨cl84, Ar84, q84, S84, M84, H84, G84⟩ := id fw83
  obtain ⟨T85, h85, X85, e85, W85, st85⟩ := stC X83 hx hZ e83 Ar84 (j := (8 : Int32)) (inb_of S84 (own_inx sv (by decide) (by decide))) (g := (mkF m 108 #[vi sv, vi 0, vl (sv.toInt64), .second, vi (Int32.ofNat (own_nd (own_n sv))), vi (own_L sv), vr b67] [(.int 105), (.int 8), (.ref b67)])) rfl rfl (hb hby own_d39_108)
  have N85 := Fr.snoc X85 N83 g_b67
  have K85 : Keep h0 h85 [] := K83.wr W85 (Or.inr hz_b67)
  have Z85 : n0 ≤ h85.size := Nat.le_trans Z83 (Keep.of_wr W85).1
  have O85 := O83.wr W85 g_b67
  have fw85 := (show Arv Z h85 b67 k67 .char (own_L sv) (((own_ex (own_tl sv) 8).set ((8 : Int32)).toNatClampNeg (105 : Int32)).map Value.int) (.int 0) by have q := Arv.set Ar84 q84 S84 M84 H84 G84 (fits_nar_char _) W85 (((8 : Int32)).toNatClampNeg) rfl (own_lx sv (own_ex_len _ _) (by decide)); rw [own_lset] at q; exact q)
  rw [own_xs8] at fw85
  refine own_st (T' := T85) (g' := (mkF m 109 #[vi sv, vi 0, vl (sv.toInt64), .second, vi (Int32.ofNat (own_nd (own_n sv))), vi (own_L sv), vr b67] [])) st85 ?_
  refine own_st (T' := T85) (g' := (mkF m 115 #[vi sv, vi 0, vl (sv.toInt64), .second, vi (Int32.ofNat (own_nd (own_n sv))), vi (own_L sv), vr b67] [(.int 118), (.int 9), (.ref b67)])) (fun t k => ?_) ?_
  ·refine XS.aload X85.here hx rfl (hb hby own_d39_109) rfl rfl ?_
   refine XS.bipush X85.here hx rfl (hb hby own_d39_111) ?_
   refine XS.bipush X85.here hx rfl (hb hby own_d39_113) ?_
   exact k
  obtain ⟨cl86, Ar86, q86, S86, M86, H86, G86⟩ := id fw85
  obtain ⟨T87, h87, X87, e87, W87, st87⟩ := stC X85 hx hZ e85 Ar86 (j := (9 : Int32)) (inb_of S86 (own_inx sv (by decide) (by decide))) (g := (mkF m 115 #[vi sv, vi 0, vl (sv.toInt64), .second, vi (Int32.ofNat (own_nd (own_n sv))), vi (own_L sv), vr b67] [(.int 118), (.int 9), (.ref b67)])) rfl rfl (hb hby own_d39_115)
  have N87 := Fr.snoc X87 N85 g_b67
  have K87 : Keep h0 h87 [] := K85.wr W87 (Or.inr hz_b67)
  have Z87 : n0 ≤ h87.size := Nat.le_trans Z85 (Keep.of_wr W87).1
  have O87 := O85.wr W87 g_b67
  have fw87 := (show Arv Z h87 b67 k67 .char (own_L sv) (((own_ex (own_tl sv) 9).set ((9 : Int32)).toNatClampNeg (118 : Int32)).map Value.int) (.int 0) by have q := Arv.set Ar86 q86 S86 M86 H86 G86 (fits_nar_char _) W87 (((9 : Int32)).toNatClampNeg) rfl (own_lx sv (own_ex_len _ _) (by decide)); rw [own_lset] at q; exact q)
  rw [own_xs9] at fw87
  refine own_st (T' := T87) (g' := (mkF m 116 #[vi sv, vi 0, vl (sv.toInt64), .second, vi (Int32.ofNat (own_nd (own_n sv))), vi (own_L sv), vr b67] [])) st87 ?_
  refine own_st (T' := T87) (g' := (mkF m 122 #[vi sv, vi 0, vl (sv.toInt64), .second, vi (Int32.ofNat (own_nd (own_n sv))), vi (own_L sv), vr b67] [(.int 101), (.int 10), (.ref b67)])) (fun t k => ?_) ?_
  ·refine XS.aload X87.here hx rfl (hb hby own_d39_116) rfl rfl ?_
   refine XS.bipush X87.here hx rfl (hb hby own_d39_118) ?_
   refine XS.bipush X87.here hx rfl (hb hby own_d39_120) ?_
   exact k
  obtain ⟨cl88, Ar88, q88, S88, M88, H88, G88⟩ := id fw87
  obtain ⟨T89, h89, X89, e89, W89, st89⟩ := stC X87 hx hZ e87 Ar88 (j := (10 : Int32)) (inb_of S88 (own_inx sv (by decide) (by decide))) (g := (mkF m 122 #[vi sv, vi 0, vl (sv.toInt64), .second, vi (Int32.ofNat (own_nd (own_n sv))), vi (own_L sv), vr b67] [(.int 101), (.int 10), (.ref b67)])) rfl rfl (hb hby own_d39_122)
  have N89 := Fr.snoc X89 N87 g_b67
  have K89 : Keep h0 h89 [] := K87.wr W89 (Or.inr hz_b67)
  have Z89 : n0 ≤ h89.size := Nat.le_trans Z87 (Keep.of_wr W89).1
  have O89 := O87.wr W89 g_b67
  have fw89 := (show Arv Z h89 b67 k67 .char (own_L sv) (((own_ex (own_tl sv) 10).set ((10 : Int32)).toNatClampNeg (101 : Int32)).map Value.int) (.int 0) by have q := Arv.set Ar88 q88 S88 M88 H88 G88 (fits_nar_char _) W89 (((10 : Int32)).toNatClampNeg) rfl (own_lx sv (own_ex_len _ _) (by decide)); rw [own_lset] at q; exact q)
  rw [own_xs10] at fw89
  refine own_st (T' := T89) (g' := (mkF m 123 #[vi sv, vi 0, vl (sv.toInt64), .second, vi (Int32.ofNat (own_nd (own_n sv))), vi (own_L sv), vr b67] [])) st89 ?_
  refine own_st (T' := T89) (g' := (mkF m 129 #[vi sv, vi 0, vl (sv.toInt64), .second, vi (Int32.ofNat (own_nd (own_n sv))), vi (own_L sv), vr b67] [(.int 114), (.int 11), (.ref b67)])) (fun t k => ?_) ?_
  ·refine XS.aload X89.here hx rfl (hb hby own_d39_123) rfl rfl ?_
   refine XS.bipush X89.here hx rfl (hb hby own_d39_125) ?_
   refine XS.bipush X89.here hx rfl (hb hby own_d39_127) ?_
   exact k
  obtain ⟨cl90, Ar90, q90, S90, M90, H90, G90⟩ := id fw89
  obtain ⟨T91, h91, X91, e91, W91, st91⟩ := stC X89 hx hZ e89 Ar90 (j := (11 : Int32)) (inb_of S90 (own_inx sv (by decide) (by decide))) (g := (mkF m 129 #[vi sv, vi 0, vl (sv.toInt64), .second, vi (Int32.ofNat (own_nd (own_n sv))), vi (own_L sv), vr b67] [(.int 114), (.int 11), (.ref b67)])) rfl rfl (hb hby own_d39_129)
  have N91 := Fr.snoc X91 N89 g_b67
  have K91 : Keep h0 h91 [] := K89.wr W91 (Or.inr hz_b67)
  have Z91 : n0 ≤ h91.size := Nat.le_trans Z89 (Keep.of_wr W91).1
  have O91 := O89.wr W91 g_b67
  have fw91 := (show Arv Z h91 b67 k67 .char (own_L sv) (((own_ex (own_tl sv) 11).set ((11 : Int32)).toNatClampNeg (114 : Int32)).map Value.int) (.int 0) by have q := Arv.set Ar90 q90 S90 M90 H90 G90 (fits_nar_char _) W91 (((11 : Int32)).toNatClampNeg) rfl (own_lx sv (own_ex_len _ _) (by decide)); rw [own_lset] at q; exact q)
  rw [own_xs11] at fw91
  refine own_st (T' := T91) (g' := (mkF m 130 #[vi sv, vi 0, vl (sv.toInt64), .second, vi (Int32.ofNat (own_nd (own_n sv))), vi (own_L sv), vr b67] [])) st91 ?_
  refine own_st (T' := T91) (g' := (mkF m 136 #[vi sv, vi 0, vl (sv.toInt64), .second, vi (Int32.ofNat (own_nd (own_n sv))), vi (own_L sv), vr b67] [(.int 32), (.int 12), (.ref b67)])) (fun t k => ?_) ?_
  ·refine XS.aload X91.here hx rfl (hb hby own_d39_130) rfl rfl ?_
   refine XS.bipush X91.here hx rfl (hb hby own_d39_132) ?_
   refine XS.bipush X91.here hx rfl (hb hby own_d39_134) ?_
   exact k
  obtain ⟨cl92, Ar92, q92, S92, M92, H92, G92⟩ := id fw91
  obtain ⟨T93, h93, X93, e93, W93, st93⟩ := stC X91 hx hZ e91 Ar92 (j := (12 : Int32)) (inb_of S92 (own_inx sv (by decide) (by decide))) (g := (mkF m 136 #[vi sv, vi 0, vl (sv.toInt64), .second, vi (Int32.ofNat (own_nd (own_n sv))), vi (own_L sv), vr b67] [(.int 32), (.int 12), (.ref b67)])) rfl rfl (hb hby own_d39_136)
  have N93 := Fr.snoc X93 N91 g_b67
  have K93 : Keep h0 h93 [] := K91.wr W93 (Or.inr hz_b67)
  have Z93 : n0 ≤ h93.size := Nat.le_trans Z91 (Keep.of_wr W93).1
  have O93 := O91.wr W93 g_b67
  have fw93 := (show Arv Z h93 b67 k67 .char (own_L sv) (((own_ex (own_tl sv) 12).set ((12 : Int32)).toNatClampNeg (32 : Int32)).map Value.int) (.int 0) by have q := Arv.set Ar92 q92 S92 M92 H92 G92 (fits_nar_char _) W93 (((12 : Int32)).toNatClampNeg) rfl (own_lx sv (own_ex_len _ _) (by decide)); rw [own_lset] at q; exact q)
  rw [own_xs12] at fw93
  refine own_st (T' := T93) (g' := (mkF m 137 #[vi sv, vi 0, vl (sv.toInt64), .second, vi (Int32.ofNat (own_nd (own_n sv))), vi (own_L sv), vr b67] [])) st93 ?_
  refine own_st (T' := T93) (g' := (mkF m 143 #[vi sv, vi 0, vl (sv.toInt64), .second, vi (Int32.ofNat (own_nd (own_n sv))), vi (own_L sv), vr b67] [(.int 97), (.int 13), (.ref b67)])) (fun t k => ?_) ?_
  ·refine XS.aload X93.here hx rfl (hb hby own_d39_137) rfl rfl ?_
   refine XS.bipush X93.here hx rfl (hb hby own_d39_139) ?_
   refine XS.bipush X93.here hx rfl (hb hby own_d39_141) ?_
   exact k
  obtain ⟨cl94, Ar94, q94, S94, M94, H94, G94⟩ := id fw93
  obtain ⟨T95, h95, X95, e95, W95, st95⟩ := stC X93 hx hZ e93 Ar94 (j := (13 : Int32)) (inb_of S94 (own_inx sv (by decide) (by decide))) (g := (mkF m 143 #[vi sv, vi 0, vl (sv.toInt64), .second, vi (Int32.ofNat (own_nd (own_n sv))), vi (own_L sv), vr b67] [(.int 97), (.int 13), (.ref b67)])) rfl rfl (hb hby own_d39_143)
  have N95 := Fr.snoc X95 N93 g_b67
  have K95 : Keep h0 h95 [] := K93.wr W95 (Or.inr hz_b67)
  have Z95 : n0 ≤ h95.size := Nat.le_trans Z93 (Keep.of_wr W95).1
  have O95 := O93.wr W95 g_b67
  have fw95 := (show Arv Z h95 b67 k67 .char (own_L sv) (((own_ex (own_tl sv) 13).set ((13 : Int32)).toNatClampNeg (97 : Int32)).map Value.int) (.int 0) by have q := Arv.set Ar94 q94 S94 M94 H94 G94 (fits_nar_char _) W95 (((13 : Int32)).toNatClampNeg) rfl (own_lx sv (own_ex_len _ _) (by decide)); rw [own_lset] at q; exact q)
  rw [own_xs13] at fw95
  refine own_st (T' := T95) (g' := (mkF m 144 #[vi sv, vi 0, vl (sv.toInt64), .second, vi (Int32.ofNat (own_nd (own_n sv))), vi (own_L sv), vr b67] [])) st95 ?_
  refine own_st (T' := T95) (g' := (mkF m 150 #[vi sv, vi 0, vl (sv.toInt64), .second, vi (Int32.ofNat (own_nd (own_n sv))), vi (own_L sv), vr b67] [(.int 110), (.int 14), (.ref b67)])) (fun t k => ?_) ?_
  ·refine XS.aload X95.here hx rfl (hb hby own_d39_144) rfl rfl ?_
   refine XS.bipush X95.here hx rfl (hb hby own_d39_146) ?_
   refine XS.bipush X95.here hx rfl (hb hby own_d39_148) ?_
   exact k
  obtain ⟨cl96, Ar96, q96, S96, M96, H96, G96⟩ := id fw95
  obtain ⟨T97, h97, X97, e97, W97, st97⟩ := stC X95 hx hZ e95 Ar96 (j := (14 : Int32)) (inb_of S96 (own_inx sv (by decide) (by decide))) (g := (mkF m 150 #[vi sv, vi 0, vl (sv.toInt64), .second, vi (Int32.ofNat (own_nd (own_n sv))), vi (own_L sv), vr b67] [(.int 110), (.int 14), (.ref b67)])) rfl rfl (hb hby own_d39_150)
  have N97 := Fr.snoc X97 N95 g_b67
  have K97 : Keep h0 h97 [] := K95.wr W97 (Or.inr hz_b67)
  have Z97 : n0 ≤ h97.size := Nat.le_trans Z95 (Keep.of_wr W97).1
  have O97 := O95.wr W97 g_b67
  have fw97 := (show Arv Z h97 b67 k67 .char (own_L sv) (((own_ex (own_tl sv) 14).set ((14 : Int32)).toNatClampNeg (110 : Int32)).map Value.int) (.int 0) by have q := Arv.set Ar96 q96 S96 M96 H96 G96 (fits_nar_char _) W97 (((14 : Int32)).toNatClampNeg) rfl (own_lx sv (own_ex_len _ _) (by decide)); rw [own_lset] at q; exact q)
  rw [own_xs14] at fw97
  refine own_st (T' := T97) (g' := (mkF m 151 #[vi sv, vi 0, vl (sv.toInt64), .second, vi (Int32.ofNat (own_nd (own_n sv))), vi (own_L sv), vr b67] [])) st97 ?_
  refine own_st (T' := T97) (g' := (mkF m 157 #[vi sv, vi 0, vl (sv.toInt64), .second, vi (Int32.ofNat (own_nd (own_n sv))), vi (own_L sv), vr b67] [(.int 115), (.int 15), (.ref b67)])) (fun t k => ?_) ?_
  ·refine XS.aload X97.here hx rfl (hb hby own_d39_151) rfl rfl ?_
   refine XS.bipush X97.here hx rfl (hb hby own_d39_153) ?_
   refine XS.bipush X97.here hx rfl (hb hby own_d39_155) ?_
   exact k
  obtain ⟨cl98, Ar98, q98, S98, M98, H98, G98⟩ := id fw97
  obtain ⟨T99, h99, X99, e99, W99, st99⟩ := stC X97 hx hZ e97 Ar98 (j := (15 : Int32)) (inb_of S98 (own_inx sv (by decide) (by decide))) (g := (mkF m 157 #[vi sv, vi 0, vl (sv.toInt64), .second, vi (Int32.ofNat (own_nd (own_n sv))), vi (own_L sv), vr b67] [(.int 115), (.int 15), (.ref b67)])) rfl rfl (hb hby own_d39_157)
  have N99 := Fr.snoc X99 N97 g_b67
  have K99 : Keep h0 h99 [] := K97.wr W99 (Or.inr hz_b67)
  have Z99 : n0 ≤ h99.size := Nat.le_trans Z97 (Keep.of_wr W99).1
  have O99 := O97.wr W99 g_b67
  have fw99 := (show Arv Z h99 b67 k67 .char (own_L sv) (((own_ex (own_tl sv) 15).set ((15 : Int32)).toNatClampNeg (115 : Int32)).map Value.int) (.int 0) by have q := Arv.set Ar98 q98 S98 M98 H98 G98 (fits_nar_char _) W99 (((15 : Int32)).toNatClampNeg) rfl (own_lx sv (own_ex_len _ _) (by decide)); rw [own_lset] at q; exact q)
  rw [own_xs15] at fw99
  refine own_st (T' := T99) (g' := (mkF m 158 #[vi sv, vi 0, vl (sv.toInt64), .second, vi (Int32.ofNat (own_nd (own_n sv))), vi (own_L sv), vr b67] [])) st99 ?_
  refine own_st (T' := T99) (g' := (mkF m 164 #[vi sv, vi 0, vl (sv.toInt64), .second, vi (Int32.ofNat (own_nd (own_n sv))), vi (own_L sv), vr b67] [(.int 119), (.int 16), (.ref b67)])) (fun t k => ?_) ?_
  ·refine XS.aload X99.here hx rfl (hb hby own_d39_158) rfl rfl ?_
   refine XS.bipush X99.here hx rfl (hb hby own_d39_160) ?_
   refine XS.bipush X99.here hx rfl (hb hby own_d39_162) ?_
   exact k
  obtain ⟨cl100, Ar100, q100, S100, M100, H100, G100⟩ := id fw99
  obtain ⟨T101, h101, X101, e101, W101, st101⟩ := stC X99 hx hZ e99 Ar100 (j := (16 : Int32)) (inb_of S100 (own_inx sv (by decide) (by decide))) (g := (mkF m 164 #[vi sv, vi 0, vl (sv.toInt64), .second, vi (Int32.ofNat (own_nd (own_n sv))), vi (own_L sv), vr b67] [(.int 119), (.int 16), (.ref b67)])) rfl rfl (hb hby own_d39_164)
  have N101 := Fr.snoc X101 N99 g_b67
  have K101 : Keep h0 h101 [] := K99.wr W101 (Or.inr hz_b67)
  have Z101 : n0 ≤ h101.size := Nat.le_trans Z99 (Keep.of_wr W101).1
  have O101 := O99.wr W101 g_b67
  have fw101 := (show Arv Z h101 b67 k67 .char (own_L sv) (((own_ex (own_tl sv) 16).set ((16 : Int32)).toNatClampNeg (119 : Int32)).map Value.int) (.int 0) by have q := Arv.set Ar100 q100 S100 M100 H100 G100 (fits_nar_char _) W101 (((16 : Int32)).toNatClampNeg) rfl (own_lx sv (own_ex_len _ _) (by decide)); rw [own_lset] at q; exact q)
  rw [own_xs16] at fw101
  refine own_st (T' := T101) (g' := (mkF m 165 #[vi sv, vi 0, vl (sv.toInt64), .second, vi (Int32.ofNat (own_nd (own_n sv))), vi (own_L sv), vr b67] [])) st101 ?_
  refine own_st (T' := T101) (g' := (mkF m 171 #[vi sv, vi 0, vl (sv.toInt64), .second, vi (Int32.ofNat (own_nd (own_n sv))), vi (own_L sv), vr b67] [(.int 101), (.int 17), (.ref b67)])) (fun t k => ?_) ?_
  ·refine XS.aload X101.here hx rfl (hb hby own_d39_165) rfl rfl ?_
   refine XS.bipush X101.here hx rfl (hb hby own_d39_167) ?_
   refine XS.bipush X101.here hx rfl (hb hby own_d39_169) ?_
   exact k
  obtain ⟨cl102, Ar102, q102, S102, M102, H102, G102⟩ := id fw101
  obtain ⟨T103, h103, X103, e103, W103, st103⟩ := stC X101 hx hZ e101 Ar102 (j := (17 : Int32)) (inb_of S102 (own_inx sv (by decide) (by decide))) (g := (mkF m 171 #[vi sv, vi 0, vl (sv.toInt64), .second, vi (Int32.ofNat (own_nd (own_n sv))), vi (own_L sv), vr b67] [(.int 101), (.int 17), (.ref b67)])) rfl rfl (hb hby own_d39_171)
  have N103 := Fr.snoc X103 N101 g_b67
  have K103 : Keep h0 h103 [] := K101.wr W103 (Or.inr hz_b67)
  have Z103 : n0 ≤ h103.size := Nat.le_trans Z101 (Keep.of_wr W103).1
  have O103 := O101.wr W103 g_b67
  have fw103 := (show Arv Z h103 b67 k67 .char (own_L sv) (((own_ex (own_tl sv) 17).set ((17 : Int32)).toNatClampNeg (101 : Int32)).map Value.int) (.int 0) by have q := Arv.set Ar102 q102 S102 M102 H102 G102 (fits_nar_char _) W103 (((17 : Int32)).toNatClampNeg) rfl (own_lx sv (own_ex_len _ _) (by decide)); rw [own_lset] at q; exact q)
  rw [own_xs17] at fw103
  refine own_st (T' := T103) (g' := (mkF m 172 #[vi sv, vi 0, vl (sv.toInt64), .second, vi (Int32.ofNat (own_nd (own_n sv))), vi (own_L sv), vr b67] [])) st103 ?_
  refine own_st (T' := T103) (g' := (mkF m 178 #[vi sv, vi 0, vl (sv.toInt64), .second, vi (Int32.ofNat (own_nd (own_n sv))), vi (own_L sv), vr b67] [(.int 114), (.int 18), (.ref b67)])) (fun t k => ?_) ?_
  ·refine XS.aload X103.here hx rfl (hb hby own_d39_172) rfl rfl ?_
   refine XS.bipush X103.here hx rfl (hb hby own_d39_174) ?_
   refine XS.bipush X103.here hx rfl (hb hby own_d39_176) ?_
   exact k
  obtain ⟨cl104, Ar104, q104, S104, M104, H104, G104⟩ := id fw103
  obtain ⟨T105, h105, X105, e105, W105, st105⟩ := stC X103 hx hZ e103 Ar104 (j := (18 : Int32)) (inb_of S104 (own_inx sv (by decide) (by decide))) (g := (mkF m 178 #[vi sv, vi 0, vl (sv.toInt64), .second, vi (Int32.ofNat (own_nd (own_n sv))), vi (own_L sv), vr b67] [(.int 114), (.int 18), (.ref b67)])) rfl rfl (hb hby own_d39_178)
  have N105 := Fr.snoc X105 N103 g_b67
  have K105 : Keep h0 h105 [] := K103.wr W105 (Or.inr hz_b67)
  have Z105 : n0 ≤ h105.size := Nat.le_trans Z103 (Keep.of_wr W105).1
  have O105 := O103.wr W105 g_b67
  have fw105 := (show Arv Z h105 b67 k67 .char (own_L sv) (((own_ex (own_tl sv) 18).set ((18 : Int32)).toNatClampNeg (114 : Int32)).map Value.int) (.int 0) by have q := Arv.set Ar104 q104 S104 M104 H104 G104 (fits_nar_char _) W105 (((18 : Int32)).toNatClampNeg) rfl (own_lx sv (own_ex_len _ _) (by decide)); rw [own_lset] at q; exact q)
  rw [own_xs18] at fw105
  refine own_st (T' := T105) (g' := (mkF m 179 #[vi sv, vi 0, vl (sv.toInt64), .second, vi (Int32.ofNat (own_nd (own_n sv))), vi (own_L sv), vr b67] [])) st105 ?_
  refine own_st (T' := T105) (g' := (mkF m 185 #[vi sv, vi 0, vl (sv.toInt64), .second, vi (Int32.ofNat (own_nd (own_n sv))), vi (own_L sv), vr b67] [(.int 101), (.int 19), (.ref b67)])) (fun t k => ?_) ?_
  ·refine XS.aload X105.here hx rfl (hb hby own_d39_179) rfl rfl ?_
   refine XS.bipush X105.here hx rfl (hb hby own_d39_181) ?_
   refine XS.bipush X105.here hx rfl (hb hby own_d39_183) ?_
   exact k
  obtain ⟨cl106, Ar106, q106, S106, M106, H106, G106⟩ := id fw105
  obtain ⟨T107, h107, X107, e107, W107, st107⟩ := stC X105 hx hZ e105 Ar106 (j := (19 : Int32)) (inb_of S106 (own_inx sv (by decide) (by decide))) (g := (mkF m 185 #[vi sv, vi 0, vl (sv.toInt64), .second, vi (Int32.ofNat (own_nd (own_n sv))), vi (own_L sv), vr b67] [(.int 101), (.int 19), (.ref b67)])) rfl rfl (hb hby own_d39_185)
  have N107 := Fr.snoc X107 N105 g_b67
  have K107 : Keep h0 h107 [] := K105.wr W107 (Or.inr hz_b67)
  have Z107 : n0 ≤ h107.size := Nat.le_trans Z105 (Keep.of_wr W107).1
  have O107 := O105.wr W107 g_b67
  have fw107 := (show Arv Z h107 b67 k67 .char (own_L sv) (((own_ex (own_tl sv) 19).set ((19 : Int32)).toNatClampNeg (101 : Int32)).map Value.int) (.int 0) by have q := Arv.set Ar106 q106 S106 M106 H106 G106 (fits_nar_char _) W107 (((19 : Int32)).toNatClampNeg) rfl (own_lx sv (own_ex_len _ _) (by decide)); rw [own_lset] at q; exact q)
  rw [own_xs19] at fw107
  refine own_st (T' := T107) (g' := (mkF m 186 #[vi sv, vi 0, vl (sv.toInt64), .second, vi (Int32.ofNat (own_nd (own_n sv))), vi (own_L sv), vr b67] [])) st107 ?_
  refine own_st (T' := T107) (g' := (mkF m 192 #[vi sv, vi 0, vl (sv.toInt64), .second, vi (Int32.ofNat (own_nd (own_n sv))), vi (own_L sv), vr b67] [(.int 100), (.int 20), (.ref b67)])) (fun t k => ?_) ?_
  ·refine XS.aload X107.here hx rfl (hb hby own_d39_186) rfl rfl ?_
   refine XS.bipush X107.here hx rfl (hb hby own_d39_188) ?_
   refine XS.bipush X107.here hx rfl (hb hby own_d39_190) ?_
   exact k
  obtain ⟨cl108, Ar108, q108, S108, M108, H108, G108⟩ := id fw107
  obtain ⟨T109, h109, X109, e109, W109, st109⟩ := stC X107 hx hZ e107 Ar108 (j := (20 : Int32)) (inb_of S108 (own_inx sv (by decide) (by decide))) (g := (mkF m 192 #[vi sv, vi 0, vl (sv.toInt64), .second, vi (Int32.ofNat (own_nd (own_n sv))), vi (own_L sv), vr b67] [(.int 100), (.int 20), (.ref b67)])) rfl rfl (hb hby own_d39_192)
  have N109 := Fr.snoc X109 N107 g_b67
  have K109 : Keep h0 h109 [] := K107.wr W109 (Or.inr hz_b67)
  have Z109 : n0 ≤ h109.size := Nat.le_trans Z107 (Keep.of_wr W109).1
  have O109 := O107.wr W109 g_b67
  have fw109 := (show Arv Z h109 b67 k67 .char (own_L sv) (((own_ex (own_tl sv) 20).set ((20 : Int32)).toNatClampNeg (100 : Int32)).map Value.int) (.int 0) by have q := Arv.set Ar108 q108 S108 M108 H108 G108 (fits_nar_char _) W109 (((20 : Int32)).toNatClampNeg) rfl (own_lx sv (own_ex_len _ _) (by decide)); rw [own_lset] at q; exact q)
  rw [own_xs20] at fw109
  refine own_st (T' := T109) (g' := (mkF m 193 #[vi sv, vi 0, vl (sv.toInt64), .second, vi (Int32.ofNat (own_nd (own_n sv))), vi (own_L sv), vr b67] [])) st109 ?_
  refine own_st (T' := T109) (g' := (mkF m 199 #[vi sv, vi 0, vl (sv.toInt64), .second, vi (Int32.ofNat (own_nd (own_n sv))), vi (own_L sv), vr b67] [(.int 32), (.int 21), (.ref b67)])) (fun t k => ?_) ?_
  ·refine XS.aload X109.here hx rfl (hb hby own_d39_193) rfl rfl ?_
   refine XS.bipush X109.here hx rfl (hb hby own_d39_195) ?_
   refine XS.bipush X109.here hx rfl (hb hby own_d39_197) ?_
   exact k
  obtain ⟨cl110, Ar110, q110, S110, M110, H110, G110⟩ := id fw109
  obtain ⟨T111, h111, X111, e111, W111, st111⟩ := stC X109 hx hZ e109 Ar110 (j := (21 : Int32)) (inb_of S110 (own_inx sv (by decide) (by decide))) (g := (mkF m 199 #[vi sv, vi 0, vl (sv.toInt64), .second, vi (Int32.ofNat (own_nd (own_n sv))), vi (own_L sv), vr b67] [(.int 32), (.int 21), (.ref b67)])) rfl rfl (hb hby own_d39_199)
  have N111 := Fr.snoc X111 N109 g_b67
  have K111 : Keep h0 h111 [] := K109.wr W111 (Or.inr hz_b67)
  have Z111 : n0 ≤ h111.size := Nat.le_trans Z109 (Keep.of_wr W111).1
  have O111 := O109.wr W111 g_b67
  have fw111 := (show Arv Z h111 b67 k67 .char (own_L sv) (((own_ex (own_tl sv) 21).set ((21 : Int32)).toNatClampNeg (32 : Int32)).map Value.int) (.int 0) by have q := Arv.set Ar110 q110 S110 M110 H110 G110 (fits_nar_char _) W111 (((21 : Int32)).toNatClampNeg) rfl (own_lx sv (own_ex_len _ _) (by decide)); rw [own_lset] at q; exact q)
  rw [own_xs21] at fw111
  refine own_st (T' := T111) (g' := (mkF m 200 #[vi sv, vi 0, vl (sv.toInt64), .second, vi (Int32.ofNat (own_nd (own_n sv))), vi (own_L sv), vr b67] [])) st111 ?_
  refine own_st (T' := T111) (g' := (mkF m 211 #[vi sv, vi 0, vl (sv.toInt64), .second, vi (Int32.ofNat (own_nd (own_n sv))), vi (own_L sv), vr b67] [])) (fun t k => ?_) ?_
  ·refine XS.iloadN X111.here hx rfl (hb hby own_d39_200) rfl ?_
   refine XS.ifYes X111.here hx rfl (pc0 := 201) (pc' := 211) rfl (hb hby own_d39_201) rfl ((if0 _ _).trans (teq (rfl : (0 : Int32) = (0 : Int32))).1) (by decide) (by decide) ?_
   exact k
  have Vb112 : Arv Z h111 b67 k67 .char (own_L sv) ((own_pw sv (own_nd (own_n sv)) (own_tl sv) (own_base sv) 0).map Value.int) (.int 0) := by rw [own_pw, own_base, if_neg hneg]; exact fw111
  have Jq : ∀ (T : State) (locs : List Loc), Stand p l e own_r39 s m #[(.int sv)] below meth c T locs 1 33 → Fr n0 locs → T.heap = h111 → own_Go p e below (own_K s (own_Q39 Z sv cs h0 n0) own_r39.cells own_r39.slots) T (mkF m 211 #[vi sv, vi 0, vl (sv.toInt64), .second, vi (Int32.ofNat (own_nd (own_n sv))), vi (own_L sv), vr b67] []) := by
   intro T113 locs113 X113 N113 e113
   refine own_st (T' := T113) (g' := (mkF m 220 #[vi sv, vi 0, vl (sv.toInt64), .second, vi (Int32.ofNat (own_nd (own_n sv))), vi (own_L sv), vr b67] [(.long (1 : Int64)), (.int 0), (.int (Int32.ofNat (own_nd (own_n sv)))), (.long (sv.toInt64)), (.int (own_L sv)), (.ref b67)])) (fun t k => ?_) ?_
   ·refine XS.aload X113.here hx rfl (hb hby own_d39_211) rfl rfl ?_
    refine XS.iload X113.here hx rfl (hb hby own_d39_213) rfl ?_
    refine XS.lloadN X113.here hx rfl (hb hby own_d39_215) rfl ?_
    refine XS.iload X113.here hx rfl (hb hby own_d39_216) rfl ?_
    refine XS.iconst X113.here hx rfl (hb hby own_d39_218) ?_
    refine XS.lconst X113.here hx rfl (hb hby own_d39_219) ?_
    exact k
   obtain ⟨_, _, ⟨T114, L114, c114, n114⟩, -, X114, ⟨Lc114, hQ114, l114, y114, z114⟩, st114⟩ := Jvm.LawKit.callS X113 hx (y := own_y30) hown (om hZ hw 215 rfl) (om hZ hw 216 rfl) (om hZ hw 208 rfl) (om hZ hw 217 rfl) (by decide) (backOf (W := 0) (own_rm41 l Z a0 hw b67 k67 (own_pw sv (own_nd (own_n sv)) (own_tl sv) (own_base sv) 0) (own_L sv) (sv.toInt64) (Int32.ofNat (own_nd (own_n sv))) (0 : Int32) (1 : Int64) sv (own_tl sv) (own_nd (own_n sv)) 0 h111 n0 Z111 Vb112 g_b67 (by rw [own_pw_len, own_base_len]) (own_L_i sv) (own_tl_r sv).2 (own_av0 hneg) (own_ndi _) (by decide) (by decide) (own_dp sv)) hZ (own_w hw 217 rfl) (own_w hw 208 rfl) (by decide) (by decide)) (g := (mkF m 220 #[vi sv, vi 0, vl (sv.toInt64), .second, vi (Int32.ofNat (own_nd (own_n sv))), vi (own_L sv), vr b67] [(.long (1 : Int64)), (.int 0), (.int (Int32.ofNat (own_nd (own_n sv)))), (.long (sv.toInt64)), (.int (own_L sv)), (.ref b67)])) rfl (by rw [hml]; rfl) (argsL := [(.ref b67), (.int (own_L sv)), (.long (sv.toInt64)), (.int (Int32.ofNat (own_nd (own_n sv)))), (.int 0), (.long (1 : Int64))]) (rest := []) (lenOf own_pd20 rfl) rfl (by show 2 * 0 + _ ≤ _; exact Nat.le_of_eq rfl) (hb hby own_d39_220) (fun _ _ => ⟨rfl, e113, (by decide : 1 + 0 ≤ _), (by decide : 33 + 0 ≤ _)⟩)
   dsimp only [Pt.U, Pt.locs, Pt.cells, Pt.slots] at X114 l114 y114 z114 st114 hQ114
   subst l114 y114 z114
   obtain ⟨h114, e114⟩ : ∃ z, T114.heap = z := ⟨_, rfl⟩
   rw [e114] at hQ114
   obtain ⟨rfl, N114q, Kc114, Vc114⟩ := hQ114
   have N114 := Fr.app N113 N114q
   have K114 : Keep h0 h114 [] := K111.trans Kc114 (allS (Or.inr hz_b67) all0)
   have Z114 : n0 ≤ h114.size := Nat.le_trans Z111 Kc114.1
   have O114 := O111.keep Kc114 (allS g_b67 all0)
   have Vq114 : Arv Z h114 b67 k67 .char (own_L sv) ((own_pw sv (own_nd (own_n sv)) (own_tl sv) (own_base sv) 1).map Value.int) (.int 0) := Vc114
   refine own_st (T' := T114) (g' := (mkF m 223 #[vi sv, vi 0, vl (sv.toInt64), .second, vi (Int32.ofNat (own_nd (own_n sv))), vi (own_L sv), vr b67] [])) st114 ?_
   refine own_st (T' := T114) (g' := (mkF m 234 #[vi sv, vi 0, vl (sv.toInt64), .second, vi (Int32.ofNat (own_nd (own_n sv))), vi (own_L sv), vr b67] [(.long (10 : Int64)), (.int 1), (.int (Int32.ofNat (own_nd (own_n sv)))), (.long (sv.toInt64)), (.int (own_L sv)), (.ref b67)])) (fun t k => ?_) ?_
   ·refine XS.aload X114.here hx rfl (hb hby own_d39_223) rfl rfl ?_
    refine XS.iload X114.here hx rfl (hb hby own_d39_225) rfl ?_
    refine XS.lloadN X114.here hx rfl (hb hby own_d39_227) rfl ?_
    refine XS.iload X114.here hx rfl (hb hby own_d39_228) rfl ?_
    refine XS.iconst X114.here hx rfl (hb hby own_d39_230) ?_
    refine X114.ldc2Long hx hown (om hZ hw 213 rfl) (g := (mkF m 231 #[vi sv, vi 0, vl (sv.toInt64), .second, vi (Int32.ofNat (own_nd (own_n sv))), vi (own_L sv), vr b67] [(.int 1), (.int (Int32.ofNat (own_nd (own_n sv)))), (.long (sv.toInt64)), (.int (own_L sv)), (.ref b67)])) rfl (hb hby own_d39_231) _ ?_
    exact k
   obtain ⟨_, _, ⟨T115, L115, c115, n115⟩, -, X115, ⟨Lc115, hQ115, l115, y115, z115⟩, st115⟩ := Jvm.LawKit.callS X114 hx (y := own_y30) hown (om hZ hw 215 rfl) (om hZ hw 216 rfl) (om hZ hw 208 rfl) (om hZ hw 217 rfl) (by decide) (backOf (W := 0) (own_rm41 l Z a0 hw b67 k67 (own_pw sv (own_nd (own_n sv)) (own_tl sv) (own_base sv) 1) (own_L sv) (sv.toInt64) (Int32.ofNat (own_nd (own_n sv))) (1 : Int32) (10 : Int64) sv (own_tl sv) (own_nd (own_n sv)) 1 h114 n0 Z114 Vq114 g_b67 (by rw [own_pw_len, own_base_len]) (own_L_i sv) (own_tl_r sv).2 (own_av0 hneg) (own_ndi _) (by decide) (by decide) (own_dp sv)) hZ (own_w hw 217 rfl) (own_w hw 208 rfl) (by decide) (by decide)) (g := (mkF m 234 #[vi sv, vi 0, vl (sv.toInt64), .second, vi (Int32.ofNat (own_nd (own_n sv))), vi (own_L sv), vr b67] [(.long (10 : Int64)), (.int 1), (.int (Int32.ofNat (own_nd (own_n sv)))), (.long (sv.toInt64)), (.int (own_L sv)), (.ref b67)])) rfl (by rw [hml]; rfl) (argsL := [(.ref b67), (.int (own_L sv)), (.long (sv.toInt64)), (.int (Int32.ofNat (own_nd (own_n sv)))), (.int 1), (.long (10 : Int64))]) (rest := []) (lenOf own_pd20 rfl) rfl (by show 2 * 0 + _ ≤ _; exact Nat.le_of_eq rfl) (hb hby own_d39_234) (fun _ _ => ⟨rfl, e114, (by decide : 1 + 0 ≤ _), (by decide : 33 + 0 ≤ _)⟩)
   dsimp only [Pt.U, Pt.locs, Pt.cells, Pt.slots] at X115 l115 y115 z115 st115 hQ115
   subst l115 y115 z115
   obtain ⟨h115, e115⟩ : ∃ z, T115.heap = z := ⟨_, rfl⟩
   rw [e115] at hQ115
   obtain ⟨rfl, N115q, Kc115, Vc115⟩ := hQ115
   have N115 := Fr.app N114 N115q
   have K115 : Keep h0 h115 [] := K114.trans Kc115 (allS (Or.inr hz_b67) all0)
   have Z115 : n0 ≤ h115.size := Nat.le_trans Z114 Kc115.1
   have O115 := O114.keep Kc115 (allS g_b67 all0)
   have Vq115 : Arv Z h115 b67 k67 .char (own_L sv) ((own_pw sv (own_nd (own_n sv)) (own_tl sv) (own_base sv) 2).map Value.int) (.int 0) := Vc115
   refine own_st (T' := T115) (g' := (mkF m 237 #[vi sv, vi 0, vl (sv.toInt64), .second, vi (Int32.ofNat (own_nd (own_n sv))), vi (own_L sv), vr b67] [])) st115 ?_
   refine own_st (T' := T115) (g' := (mkF m 248 #[vi sv, vi 0, vl (sv.toInt64), .second, vi (Int32.ofNat (own_nd (own_n sv))), vi (own_L sv), vr b67] [(.long (100 : Int64)), (.int 2), (.int (Int32.ofNat (own_nd (own_n sv)))), (.long (sv.toInt64)), (.int (own_L sv)), (.ref b67)])) (fun t k => ?_) ?_
   ·refine XS.aload X115.here hx rfl (hb hby own_d39_237) rfl rfl ?_
    refine XS.iload X115.here hx rfl (hb hby own_d39_239) rfl ?_
    refine XS.lloadN X115.here hx rfl (hb hby own_d39_241) rfl ?_
    refine XS.iload X115.here hx rfl (hb hby own_d39_242) rfl ?_
    refine XS.iconst X115.here hx rfl (hb hby own_d39_244) ?_
    refine X115.ldc2Long hx hown (om hZ hw 218 rfl) (g := (mkF m 245 #[vi sv, vi 0, vl (sv.toInt64), .second, vi (Int32.ofNat (own_nd (own_n sv))), vi (own_L sv), vr b67] [(.int 2), (.int (Int32.ofNat (own_nd (own_n sv)))), (.long (sv.toInt64)), (.int (own_L sv)), (.ref b67)])) rfl (hb hby own_d39_245) _ ?_
    exact k
   obtain ⟨_, _, ⟨T116, L116, c116, n116⟩, -, X116, ⟨Lc116, hQ116, l116, y116, z116⟩, st116⟩ := Jvm.LawKit.callS X115 hx (y := own_y30) hown (om hZ hw 215 rfl) (om hZ hw 216 rfl) (om hZ hw 208 rfl) (om hZ hw 217 rfl) (by decide) (backOf (W := 0) (own_rm41 l Z a0 hw b67 k67 (own_pw sv (own_nd (own_n sv)) (own_tl sv) (own_base sv) 2) (own_L sv) (sv.toInt64) (Int32.ofNat (own_nd (own_n sv))) (2 : Int32) (100 : Int64) sv (own_tl sv) (own_nd (own_n sv)) 2 h115 n0 Z115 Vq115 g_b67 (by rw [own_pw_len, own_base_len]) (own_L_i sv) (own_tl_r sv).2 (own_av0 hneg) (own_ndi _) (by decide) (by decide) (own_dp sv)) hZ (own_w hw 217 rfl) (own_w hw 208 rfl) (by decide) (by decide)) (g := (mkF m 248 #[vi sv, vi 0, vl (sv.toInt64), .second, vi (Int32.ofNat (own_nd (own_n sv))), vi (own_L sv), vr b67] [(.long (100 : Int64)), (.int 2), (.int (Int32.ofNat (own_nd (own_n sv)))), (.long (sv.toInt64)), (.int (own_L sv)), (.ref b67)])) rfl (by rw [hml]; rfl) (argsL := [(.ref b67), (.int (own_L sv)), (.long (sv.toInt64)), (.int (Int32.ofNat (own_nd (own_n sv)))), (.int 2), (.long (100 : Int64))]) (rest := []) (lenOf own_pd20 rfl) rfl (by show 2 * 0 + _ ≤ _; exact Nat.le_of_eq rfl) (hb hby own_d39_248) (fun _ _ => ⟨rfl, e115, (by decide : 1 + 0 ≤ _), (by decide : 33 + 0 ≤ _)⟩)
   dsimp only [Pt.U, Pt.locs, Pt.cells, Pt.slots] at X116 l116 y116 z116 st116 hQ116
   subst l116 y116 z116
   obtain ⟨h116, e116⟩ : ∃ z, T116.heap = z := ⟨_, rfl⟩
   rw [e116] at hQ116
   obtain ⟨rfl, N116q, Kc116, Vc116⟩ := hQ116
   have N116 := Fr.app N115 N116q
   have K116 : Keep h0 h116 [] := K115.trans Kc116 (allS (Or.inr hz_b67) all0)
   have Z116 : n0 ≤ h116.size := Nat.le_trans Z115 Kc116.1
   have O116 := O115.keep Kc116 (allS g_b67 all0)
   have Vq116 : Arv Z h116 b67 k67 .char (own_L sv) ((own_pw sv (own_nd (own_n sv)) (own_tl sv) (own_base sv) 3).map Value.int) (.int 0) := Vc116
   refine own_st (T' := T116) (g' := (mkF m 251 #[vi sv, vi 0, vl (sv.toInt64), .second, vi (Int32.ofNat (own_nd (own_n sv))), vi (own_L sv), vr b67] [])) st116 ?_
   refine own_st (T' := T116) (g' := (mkF m 262 #[vi sv, vi 0, vl (sv.toInt64), .second, vi (Int32.ofNat (own_nd (own_n sv))), vi (own_L sv), vr b67] [(.long (1000 : Int64)), (.int 3), (.int (Int32.ofNat (own_nd (own_n sv)))), (.long (sv.toInt64)), (.int (own_L sv)), (.ref b67)])) (fun t k => ?_) ?_
   ·refine XS.aload X116.here hx rfl (hb hby own_d39_251) rfl rfl ?_
    refine XS.iload X116.here hx rfl (hb hby own_d39_253) rfl ?_
    refine XS.lloadN X116.here hx rfl (hb hby own_d39_255) rfl ?_
    refine XS.iload X116.here hx rfl (hb hby own_d39_256) rfl ?_
    refine XS.iconst X116.here hx rfl (hb hby own_d39_258) ?_
    refine X116.ldc2Long hx hown (om hZ hw 219 rfl) (g := (mkF m 259 #[vi sv, vi 0, vl (sv.toInt64), .second, vi (Int32.ofNat (own_nd (own_n sv))), vi (own_L sv), vr b67] [(.int 3), (.int (Int32.ofNat (own_nd (own_n sv)))), (.long (sv.toInt64)), (.int (own_L sv)), (.ref b67)])) rfl (hb hby own_d39_259) _ ?_
    exact k
   obtain ⟨_, _, ⟨T117, L117, c117, n117⟩, -, X117, ⟨Lc117, hQ117, l117, y117, z117⟩, st117⟩ := Jvm.LawKit.callS X116 hx (y := own_y30) hown (om hZ hw 215 rfl) (om hZ hw 216 rfl) (om hZ hw 208 rfl) (om hZ hw 217 rfl) (by decide) (backOf (W := 0) (own_rm41 l Z a0 hw b67 k67 (own_pw sv (own_nd (own_n sv)) (own_tl sv) (own_base sv) 3) (own_L sv) (sv.toInt64) (Int32.ofNat (own_nd (own_n sv))) (3 : Int32) (1000 : Int64) sv (own_tl sv) (own_nd (own_n sv)) 3 h116 n0 Z116 Vq116 g_b67 (by rw [own_pw_len, own_base_len]) (own_L_i sv) (own_tl_r sv).2 (own_av0 hneg) (own_ndi _) (by decide) (by decide) (own_dp sv)) hZ (own_w hw 217 rfl) (own_w hw 208 rfl) (by decide) (by decide)) (g := (mkF m 262 #[vi sv, vi 0, vl (sv.toInt64), .second, vi (Int32.ofNat (own_nd (own_n sv))), vi (own_L sv), vr b67] [(.long (1000 : Int64)), (.int 3), (.int (Int32.ofNat (own_nd (own_n sv)))), (.long (sv.toInt64)), (.int (own_L sv)), (.ref b67)])) rfl (by rw [hml]; rfl) (argsL := [(.ref b67), (.int (own_L sv)), (.long (sv.toInt64)), (.int (Int32.ofNat (own_nd (own_n sv)))), (.int 3), (.long (1000 : Int64))]) (rest := []) (lenOf own_pd20 rfl) rfl (by show 2 * 0 + _ ≤ _; exact Nat.le_of_eq rfl) (hb hby own_d39_262) (fun _ _ => ⟨rfl, e116, (by decide : 1 + 0 ≤ _), (by decide : 33 + 0 ≤ _)⟩)
   dsimp only [Pt.U, Pt.locs, Pt.cells, Pt.slots] at X117 l117 y117 z117 st117 hQ117
   subst l117 y117 z117
   obtain ⟨h117, e117⟩ : ∃ z, T117.heap = z := ⟨_, rfl⟩
   rw [e117] at hQ117
   obtain ⟨rfl, N117q, Kc117, Vc117⟩ := hQ117
   have N117 := Fr.app N116 N117q
   have K117 : Keep h0 h117 [] := K116.trans Kc117 (allS (Or.inr hz_b67) all0)
   have Z117 : n0 ≤ h117.size := Nat.le_trans Z116 Kc117.1
   have O117 := O116.keep Kc117 (allS g_b67 all0)
   have Vq117 : Arv Z h117 b67 k67 .char (own_L sv) ((own_pw sv (own_nd (own_n sv)) (own_tl sv) (own_base sv) 4).map Value.int) (.int 0) := Vc117
   refine own_st (T' := T117) (g' := (mkF m 265 #[vi sv, vi 0, vl (sv.toInt64), .second, vi (Int32.ofNat (own_nd (own_n sv))), vi (own_L sv), vr b67] [])) st117 ?_
   refine own_st (T' := T117) (g' := (mkF m 276 #[vi sv, vi 0, vl (sv.toInt64), .second, vi (Int32.ofNat (own_nd (own_n sv))), vi (own_L sv), vr b67] [(.long (10000 : Int64)), (.int 4), (.int (Int32.ofNat (own_nd (own_n sv)))), (.long (sv.toInt64)), (.int (own_L sv)), (.ref b67)])) (fun t k => ?_) ?_
   ·refine XS.aload X117.here hx rfl (hb hby own_d39_265) rfl rfl ?_
    refine XS.iload X117.here hx rfl (hb hby own_d39_267) rfl ?_
    refine XS.lloadN X117.here hx rfl (hb hby own_d39_269) rfl ?_
    refine XS.iload X117.here hx rfl (hb hby own_d39_270) rfl ?_
    refine XS.iconst X117.here hx rfl (hb hby own_d39_272) ?_
    refine X117.ldc2Long hx hown (om hZ hw 220 rfl) (g := (mkF m 273 #[vi sv, vi 0, vl (sv.toInt64), .second, vi (Int32.ofNat (own_nd (own_n sv))), vi (own_L sv), vr b67] [(.int 4), (.int (Int32.ofNat (own_nd (own_n sv)))), (.long (sv.toInt64)), (.int (own_L sv)), (.ref b67)])) rfl (hb hby own_d39_273) _ ?_
    exact k
   obtain ⟨_, _, ⟨T118, L118, c118, n118⟩, -, X118, ⟨Lc118, hQ118, l118, y118, z118⟩, st118⟩ := Jvm.LawKit.callS X117 hx (y := own_y30) hown (om hZ hw 215 rfl) (om hZ hw 216 rfl) (om hZ hw 208 rfl) (om hZ hw 217 rfl) (by decide) (backOf (W := 0) (own_rm41 l Z a0 hw b67 k67 (own_pw sv (own_nd (own_n sv)) (own_tl sv) (own_base sv) 4) (own_L sv) (sv.toInt64) (Int32.ofNat (own_nd (own_n sv))) (4 : Int32) (10000 : Int64) sv (own_tl sv) (own_nd (own_n sv)) 4 h117 n0 Z117 Vq117 g_b67 (by rw [own_pw_len, own_base_len]) (own_L_i sv) (own_tl_r sv).2 (own_av0 hneg) (own_ndi _) (by decide) (by decide) (own_dp sv)) hZ (own_w hw 217 rfl) (own_w hw 208 rfl) (by decide) (by decide)) (g := (mkF m 276 #[vi sv, vi 0, vl (sv.toInt64), .second, vi (Int32.ofNat (own_nd (own_n sv))), vi (own_L sv), vr b67] [(.long (10000 : Int64)), (.int 4), (.int (Int32.ofNat (own_nd (own_n sv)))), (.long (sv.toInt64)), (.int (own_L sv)), (.ref b67)])) rfl (by rw [hml]; rfl) (argsL := [(.ref b67), (.int (own_L sv)), (.long (sv.toInt64)), (.int (Int32.ofNat (own_nd (own_n sv)))), (.int 4), (.long (10000 : Int64))]) (rest := []) (lenOf own_pd20 rfl) rfl (by show 2 * 0 + _ ≤ _; exact Nat.le_of_eq rfl) (hb hby own_d39_276) (fun _ _ => ⟨rfl, e117, (by decide : 1 + 0 ≤ _), (by decide : 33 + 0 ≤ _)⟩)
   dsimp only [Pt.U, Pt.locs, Pt.cells, Pt.slots] at X118 l118 y118 z118 st118 hQ118
   subst l118 y118 z118
   obtain ⟨h118, e118⟩ : ∃ z, T118.heap = z := ⟨_, rfl⟩
   rw [e118] at hQ118
   obtain ⟨rfl, N118q, Kc118, Vc118⟩ := hQ118
   have N118 := Fr.app N117 N118q
   have K118 : Keep h0 h118 [] := K117.trans Kc118 (allS (Or.inr hz_b67) all0)
   have Z118 : n0 ≤ h118.size := Nat.le_trans Z117 Kc118.1
   have O118 := O117.keep Kc118 (allS g_b67 all0)
   have Vq118 : Arv Z h118 b67 k67 .char (own_L sv) ((own_pw sv (own_nd (own_n sv)) (own_tl sv) (own_base sv) 5).map Value.int) (.int 0) := Vc118
   refine own_st (T' := T118) (g' := (mkF m 279 #[vi sv, vi 0, vl (sv.toInt64), .second, vi (Int32.ofNat (own_nd (own_n sv))), vi (own_L sv), vr b67] [])) st118 ?_
   refine own_st (T' := T118) (g' := (mkF m 290 #[vi sv, vi 0, vl (sv.toInt64), .second, vi (Int32.ofNat (own_nd (own_n sv))), vi (own_L sv), vr b67] [(.long (100000 : Int64)), (.int 5), (.int (Int32.ofNat (own_nd (own_n sv)))), (.long (sv.toInt64)), (.int (own_L sv)), (.ref b67)])) (fun t k => ?_) ?_
   ·refine XS.aload X118.here hx rfl (hb hby own_d39_279) rfl rfl ?_
    refine XS.iload X118.here hx rfl (hb hby own_d39_281) rfl ?_
    refine XS.lloadN X118.here hx rfl (hb hby own_d39_283) rfl ?_
    refine XS.iload X118.here hx rfl (hb hby own_d39_284) rfl ?_
    refine XS.iconst X118.here hx rfl (hb hby own_d39_286) ?_
    refine X118.ldc2Long hx hown (om hZ hw 221 rfl) (g := (mkF m 287 #[vi sv, vi 0, vl (sv.toInt64), .second, vi (Int32.ofNat (own_nd (own_n sv))), vi (own_L sv), vr b67] [(.int 5), (.int (Int32.ofNat (own_nd (own_n sv)))), (.long (sv.toInt64)), (.int (own_L sv)), (.ref b67)])) rfl (hb hby own_d39_287) _ ?_
    exact k
   obtain ⟨_, _, ⟨T119, L119, c119, n119⟩, -, X119, ⟨Lc119, hQ119, l119, y119, z119⟩, st119⟩ := Jvm.LawKit.callS X118 hx (y := own_y30) hown (om hZ hw 215 rfl) (om hZ hw 216 rfl) (om hZ hw 208 rfl) (om hZ hw 217 rfl) (by decide) (backOf (W := 0) (own_rm41 l Z a0 hw b67 k67 (own_pw sv (own_nd (own_n sv)) (own_tl sv) (own_base sv) 5) (own_L sv) (sv.toInt64) (Int32.ofNat (own_nd (own_n sv))) (5 : Int32) (100000 : Int64) sv (own_tl sv) (own_nd (own_n sv)) 5 h118 n0 Z118 Vq118 g_b67 (by rw [own_pw_len, own_base_len]) (own_L_i sv) (own_tl_r sv).2 (own_av0 hneg) (own_ndi _) (by decide) (by decide) (own_dp sv)) hZ (own_w hw 217 rfl) (own_w hw 208 rfl) (by decide) (by decide)) (g := (mkF m 290 #[vi sv, vi 0, vl (sv.toInt64), .second, vi (Int32.ofNat (own_nd (own_n sv))), vi (own_L sv), vr b67] [(.long (100000 : Int64)), (.int 5), (.int (Int32.ofNat (own_nd (own_n sv)))), (.long (sv.toInt64)), (.int (own_L sv)), (.ref b67)])) rfl (by rw [hml]; rfl) (argsL := [(.ref b67), (.int (own_L sv)), (.long (sv.toInt64)), (.int (Int32.ofNat (own_nd (own_n sv)))), (.int 5), (.long (100000 : Int64))]) (rest := []) (lenOf own_pd20 rfl) rfl (by show 2 * 0 + _ ≤ _; exact Nat.le_of_eq rfl) (hb hby own_d39_290) (fun _ _ => ⟨rfl, e118, (by decide : 1 + 0 ≤ _), (by decide : 33 + 0 ≤ _)⟩)
   dsimp only [Pt.U, Pt.locs, Pt.cells, Pt.slots] at X119 l119 y119 z119 st119 hQ119
   subst l119 y119 z119
   obtain ⟨h119, e119⟩ : ∃ z, T119.heap = z := ⟨_, rfl⟩
   rw [e119] at hQ119
   obtain ⟨rfl, N119q, Kc119, Vc119⟩ := hQ119
   have N119 := Fr.app N118 N119q
   have K119 : Keep h0 h119 [] := K118.trans Kc119 (allS (Or.inr hz_b67) all0)
   have Z119 : n0 ≤ h119.size := Nat.le_trans Z118 Kc119.1
   have O119 := O118.keep Kc119 (allS g_b67 all0)
   have Vq119 : Arv Z h119 b67 k67 .char (own_L sv) ((own_pw sv (own_nd (own_n sv)) (own_tl sv) (own_base sv) 6).map Value.int) (.int 0) := Vc119
   refine own_st (T' := T119) (g' := (mkF m 293 #[vi sv, vi 0, vl (sv.toInt64), .second, vi (Int32.ofNat (own_nd (own_n sv))), vi (own_L sv), vr b67] [])) st119 ?_
   refine own_st (T' := T119) (g' := (mkF m 305 #[vi sv, vi 0, vl (sv.toInt64), .second, vi (Int32.ofNat (own_nd (own_n sv))), vi (own_L sv), vr b67] [(.long (1000000 : Int64)), (.int 6), (.int (Int32.ofNat (own_nd (own_n sv)))), (.long (sv.toInt64)), (.int (own_L sv)), (.ref b67)])) (fun t k => ?_) ?_
   ·refine XS.aload X119.here hx rfl (hb hby own_d39_293) rfl rfl ?_
    refine XS.iload X119.here hx rfl (hb hby own_d39_295) rfl ?_
    refine XS.lloadN X119.here hx rfl (hb hby own_d39_297) rfl ?_
    refine XS.iload X119.here hx rfl (hb hby own_d39_298) rfl ?_
    refine XS.bipush X119.here hx rfl (hb hby own_d39_300) ?_
    refine X119.ldc2Long hx hown (om hZ hw 222 rfl) (g := (mkF m 302 #[vi sv, vi 0, vl (sv.toInt64), .second, vi (Int32.ofNat (own_nd (own_n sv))), vi (own_L sv), vr b67] [(.int 6), (.int (Int32.ofNat (own_nd (own_n sv)))), (.long (sv.toInt64)), (.int (own_L sv)), (.ref b67)])) rfl (hb hby own_d39_302) _ ?_
    exact k
   obtain ⟨_, _, ⟨T120, L120, c120, n120⟩, -, X120, ⟨Lc120, hQ120, l120, y120, z120⟩, st120⟩ := Jvm.LawKit.callS X119 hx (y := own_y30) hown (om hZ hw 215 rfl) (om hZ hw 216 rfl) (om hZ hw 208 rfl) (om hZ hw 217 rfl) (by decide) (backOf (W := 0) (own_rm41 l Z a0 hw b67 k67 (own_pw sv (own_nd (own_n sv)) (own_tl sv) (own_base sv) 6) (own_L sv) (sv.toInt64) (Int32.ofNat (own_nd (own_n sv))) (6 : Int32) (1000000 : Int64) sv (own_tl sv) (own_nd (own_n sv)) 6 h119 n0 Z119 Vq119 g_b67 (by rw [own_pw_len, own_base_len]) (own_L_i sv) (own_tl_r sv).2 (own_av0 hneg) (own_ndi _) (by decide) (by decide) (own_dp sv)) hZ (own_w hw 217 rfl) (own_w hw 208 rfl) (by decide) (by decide)) (g := (mkF m 305 #[vi sv, vi 0, vl (sv.toInt64), .second, vi (Int32.ofNat (own_nd (own_n sv))), vi (own_L sv), vr b67] [(.long (1000000 : Int64)), (.int 6), (.int (Int32.ofNat (own_nd (own_n sv)))), (.long (sv.toInt64)), (.int (own_L sv)), (.ref b67)])) rfl (by rw [hml]; rfl) (argsL := [(.ref b67), (.int (own_L sv)), (.long (sv.toInt64)), (.int (Int32.ofNat (own_nd (own_n sv)))), (.int 6), (.long (1000000 : Int64))]) (rest := []) (lenOf own_pd20 rfl) rfl (by show 2 * 0 + _ ≤ _; exact Nat.le_of_eq rfl) (hb hby own_d39_305) (fun _ _ => ⟨rfl, e119, (by decide : 1 + 0 ≤ _), (by decide : 33 + 0 ≤ _)⟩)
   dsimp only [Pt.U, Pt.locs, Pt.cells, Pt.slots] at X120 l120 y120 z120 st120 hQ120
   subst l120 y120 z120
   obtain ⟨h120, e120⟩ : ∃ z, T120.heap = z := ⟨_, rfl⟩
   rw [e120] at hQ120
   obtain ⟨rfl, N120q, Kc120, Vc120⟩ := hQ120
   have N120 := Fr.app N119 N120q
   have K120 : Keep h0 h120 [] := K119.trans Kc120 (allS (Or.inr hz_b67) all0)
   have Z120 : n0 ≤ h120.size := Nat.le_trans Z119 Kc120.1
   have O120 := O119.keep Kc120 (allS g_b67 all0)
   have Vq120 : Arv Z h120 b67 k67 .char (own_L sv) ((own_pw sv (own_nd (own_n sv)) (own_tl sv) (own_base sv) 7).map Value.int) (.int 0) := Vc120
   refine own_st (T' := T120) (g' := (mkF m 308 #[vi sv, vi 0, vl (sv.toInt64), .second, vi (Int32.ofNat (own_nd (own_n sv))), vi (own_L sv), vr b67] [])) st120 ?_
   refine own_st (T' := T120) (g' := (mkF m 320 #[vi sv, vi 0, vl (sv.toInt64), .second, vi (Int32.ofNat (own_nd (own_n sv))), vi (own_L sv), vr b67] [(.long (10000000 : Int64)), (.int 7), (.int (Int32.ofNat (own_nd (own_n sv)))), (.long (sv.toInt64)), (.int (own_L sv)), (.ref b67)])) (fun t k => ?_) ?_
   ·refine XS.aload X120.here hx rfl (hb hby own_d39_308) rfl rfl ?_
    refine XS.iload X120.here hx rfl (hb hby own_d39_310) rfl ?_
    refine XS.lloadN X120.here hx rfl (hb hby own_d39_312) rfl ?_
    refine XS.iload X120.here hx rfl (hb hby own_d39_313) rfl ?_
    refine XS.bipush X120.here hx rfl (hb hby own_d39_315) ?_
    refine X120.ldc2Long hx hown (om hZ hw 223 rfl) (g := (mkF m 317 #[vi sv, vi 0, vl (sv.toInt64), .second, vi (Int32.ofNat (own_nd (own_n sv))), vi (own_L sv), vr b67] [(.int 7), (.int (Int32.ofNat (own_nd (own_n sv)))), (.long (sv.toInt64)), (.int (own_L sv)), (.ref b67)])) rfl (hb hby own_d39_317) _ ?_
    exact k
   obtain ⟨_, _, ⟨T121, L121, c121, n121⟩, -, X121, ⟨Lc121, hQ121, l121, y121, z121⟩, st121⟩ := Jvm.LawKit.callS X120 hx (y := own_y30) hown (om hZ hw 215 rfl) (om hZ hw 216 rfl) (om hZ hw 208 rfl) (om hZ hw 217 rfl) (by decide) (backOf (W := 0) (own_rm41 l Z a0 hw b67 k67 (own_pw sv (own_nd (own_n sv)) (own_tl sv) (own_base sv) 7) (own_L sv) (sv.toInt64) (Int32.ofNat (own_nd (own_n sv))) (7 : Int32) (10000000 : Int64) sv (own_tl sv) (own_nd (own_n sv)) 7 h120 n0 Z120 Vq120 g_b67 (by rw [own_pw_len, own_base_len]) (own_L_i sv) (own_tl_r sv).2 (own_av0 hneg) (own_ndi _) (by decide) (by decide) (own_dp sv)) hZ (own_w hw 217 rfl) (own_w hw 208 rfl) (by decide) (by decide)) (g := (mkF m 320 #[vi sv, vi 0, vl (sv.toInt64), .second, vi (Int32.ofNat (own_nd (own_n sv))), vi (own_L sv), vr b67] [(.long (10000000 : Int64)), (.int 7), (.int (Int32.ofNat (own_nd (own_n sv)))), (.long (sv.toInt64)), (.int (own_L sv)), (.ref b67)])) rfl (by rw [hml]; rfl) (argsL := [(.ref b67), (.int (own_L sv)), (.long (sv.toInt64)), (.int (Int32.ofNat (own_nd (own_n sv)))), (.int 7), (.long (10000000 : Int64))]) (rest := []) (lenOf own_pd20 rfl) rfl (by show 2 * 0 + _ ≤ _; exact Nat.le_of_eq rfl) (hb hby own_d39_320) (fun _ _ => ⟨rfl, e120, (by decide : 1 + 0 ≤ _), (by decide : 33 + 0 ≤ _)⟩)
   dsimp only [Pt.U, Pt.locs, Pt.cells, Pt.slots] at X121 l121 y121 z121 st121 hQ121
   subst l121 y121 z121
   obtain ⟨h121, e121⟩ : ∃ z, T121.heap = z := ⟨_, rfl⟩
   rw [e121] at hQ121
   obtain ⟨rfl, N121q, Kc121, Vc121⟩ := hQ121
   have N121 := Fr.app N120 N121q
   have K121 : Keep h0 h121 [] := K120.trans Kc121 (allS (Or.inr hz_b67) all0)
   have Z121 : n0 ≤ h121.size := Nat.le_trans Z120 Kc121.1
   have O121 := O120.keep Kc121 (allS g_b67 all0)
   have Vq121 : Arv Z h121 b67 k67 .char (own_L sv) ((own_pw sv (own_nd (own_n sv)) (own_tl sv) (own_base sv) 8).map Value.int) (.int 0) := Vc121
   refine own_st (T' := T121) (g' := (mkF m 323 #[vi sv, vi 0, vl (sv.toInt64), .second, vi (Int32.ofNat (own_nd (own_n sv))), vi (own_L sv), vr b67] [])) st121 ?_
   refine own_st (T' := T121) (g' := (mkF m 335 #[vi sv, vi 0, vl (sv.toInt64), .second, vi (Int32.ofNat (own_nd (own_n sv))), vi (own_L sv), vr b67] [(.long (100000000 : Int64)), (.int 8), (.int (Int32.ofNat (own_nd (own_n sv)))), (.long (sv.toInt64)), (.int (own_L sv)), (.ref b67)])) (fun t k => ?_) ?_
   ·refine XS.aload X121.here hx rfl (hb hby own_d39_323) rfl rfl ?_
    refine XS.iload X121.here hx rfl (hb hby own_d39_325) rfl ?_
    refine XS.lloadN X121.here hx rfl (hb hby own_d39_327) rfl ?_
    refine XS.iload X121.here hx rfl (hb hby own_d39_328) rfl ?_
    refine XS.bipush X121.here hx rfl (hb hby own_d39_330) ?_
    refine X121.ldc2Long hx hown (om hZ hw 224 rfl) (g := (mkF m 332 #[vi sv, vi 0, vl (sv.toInt64), .second, vi (Int32.ofNat (own_nd (own_n sv))), vi (own_L sv), vr b67] [(.int 8), (.int (Int32.ofNat (own_nd (own_n sv)))), (.long (sv.toInt64)), (.int (own_L sv)), (.ref b67)])) rfl (hb hby own_d39_332) _ ?_
    exact k
   obtain ⟨_, _, ⟨T122, L122, c122, n122⟩, -, X122, ⟨Lc122, hQ122, l122, y122, z122⟩, st122⟩ := Jvm.LawKit.callS X121 hx (y := own_y30) hown (om hZ hw 215 rfl) (om hZ hw 216 rfl) (om hZ hw 208 rfl) (om hZ hw 217 rfl) (by decide) (backOf (W := 0) (own_rm41 l Z a0 hw b67 k67 (own_pw sv (own_nd (own_n sv)) (own_tl sv) (own_base sv) 8) (own_L sv) (sv.toInt64) (Int32.ofNat (own_nd (own_n sv))) (8 : Int32) (100000000 : Int64) sv (own_tl sv) (own_nd (own_n sv)) 8 h121 n0 Z121 Vq121 g_b67 (by rw [own_pw_len, own_base_len]) (own_L_i sv) (own_tl_r sv).2 (own_av0 hneg) (own_ndi _) (by decide) (by decide) (own_dp sv)) hZ (own_w hw 217 rfl) (own_w hw 208 rfl) (by decide) (by decide)) (g := (mkF m 335 #[vi sv, vi 0, vl (sv.toInt64), .second, vi (Int32.ofNat (own_nd (own_n sv))), vi (own_L sv), vr b67] [(.long (100000000 : Int64)), (.int 8), (.int (Int32.ofNat (own_nd (own_n sv)))), (.long (sv.toInt64)), (.int (own_L sv)), (.ref b67)])) rfl (by rw [hml]; rfl) (argsL := [(.ref b67), (.int (own_L sv)), (.long (sv.toInt64)), (.int (Int32.ofNat (own_nd (own_n sv)))), (.int 8), (.long (100000000 : Int64))]) (rest := []) (lenOf own_pd20 rfl) rfl (by show 2 * 0 + _ ≤ _; exact Nat.le_of_eq rfl) (hb hby own_d39_335) (fun _ _ => ⟨rfl, e121, (by decide : 1 + 0 ≤ _), (by decide : 33 + 0 ≤ _)⟩)
   dsimp only [Pt.U, Pt.locs, Pt.cells, Pt.slots] at X122 l122 y122 z122 st122 hQ122
   subst l122 y122 z122
   obtain ⟨h122, e122⟩ : ∃ z, T122.heap = z := ⟨_, rfl⟩
   rw [e122] at hQ122
   obtain ⟨rfl, N122q, Kc122, Vc122⟩ := hQ122
   have N122 := Fr.app N121 N122q
   have K122 : Keep h0 h122 [] := K121.trans Kc122 (allS (Or.inr hz_b67) all0)
   have Z122 : n0 ≤ h122.size := Nat.le_trans Z121 Kc122.1
   have O122 := O121.keep Kc122 (allS g_b67 all0)
   have Vq122 : Arv Z h122 b67 k67 .char (own_L sv) ((own_pw sv (own_nd (own_n sv)) (own_tl sv) (own_base sv) 9).map Value.int) (.int 0) := Vc122
   refine own_st (T' := T122) (g' := (mkF m 338 #[vi sv, vi 0, vl (sv.toInt64), .second, vi (Int32.ofNat (own_nd (own_n sv))), vi (own_L sv), vr b67] [])) st122 ?_
   refine own_st (T' := T122) (g' := (mkF m 350 #[vi sv, vi 0, vl (sv.toInt64), .second, vi (Int32.ofNat (own_nd (own_n sv))), vi (own_L sv), vr b67] [(.long (1000000000 : Int64)), (.int 9), (.int (Int32.ofNat (own_nd (own_n sv)))), (.long (sv.toInt64)), (.int (own_L sv)), (.ref b67)])) (fun t k => ?_) ?_
   ·refine XS.aload X122.here hx rfl (hb hby own_d39_338) rfl rfl ?_
    refine XS.iload X122.here hx rfl (hb hby own_d39_340) rfl ?_
    refine XS.lloadN X122.here hx rfl (hb hby own_d39_342) rfl ?_
    refine XS.iload X122.here hx rfl (hb hby own_d39_343) rfl ?_
    refine XS.bipush X122.here hx rfl (hb hby own_d39_345) ?_
    refine X122.ldc2Long hx hown (om hZ hw 225 rfl) (g := (mkF m 347 #[vi sv, vi 0, vl (sv.toInt64), .second, vi (Int32.ofNat (own_nd (own_n sv))), vi (own_L sv), vr b67] [(.int 9), (.int (Int32.ofNat (own_nd (own_n sv)))), (.long (sv.toInt64)), (.int (own_L sv)), (.ref b67)])) rfl (hb hby own_d39_347) _ ?_
    exact k
   obtain ⟨_, _, ⟨T123, L123, c123, n123⟩, -, X123, ⟨Lc123, hQ123, l123, y123, z123⟩, st123⟩ := Jvm.LawKit.callS X122 hx (y := own_y30) hown (om hZ hw 215 rfl) (om hZ hw 216 rfl) (om hZ hw 208 rfl) (om hZ hw 217 rfl) (by decide) (backOf (W := 0) (own_rm41 l Z a0 hw b67 k67 (own_pw sv (own_nd (own_n sv)) (own_tl sv) (own_base sv) 9) (own_L sv) (sv.toInt64) (Int32.ofNat (own_nd (own_n sv))) (9 : Int32) (1000000000 : Int64) sv (own_tl sv) (own_nd (own_n sv)) 9 h122 n0 Z122 Vq122 g_b67 (by rw [own_pw_len, own_base_len]) (own_L_i sv) (own_tl_r sv).2 (own_av0 hneg) (own_ndi _) (by decide) (by decide) (own_dp sv)) hZ (own_w hw 217 rfl) (own_w hw 208 rfl) (by decide) (by decide)) (g := (mkF m 350 #[vi sv, vi 0, vl (sv.toInt64), .second, vi (Int32.ofNat (own_nd (own_n sv))), vi (own_L sv), vr b67] [(.long (1000000000 : Int64)), (.int 9), (.int (Int32.ofNat (own_nd (own_n sv)))), (.long (sv.toInt64)), (.int (own_L sv)), (.ref b67)])) rfl (by rw [hml]; rfl) (argsL := [(.ref b67), (.int (own_L sv)), (.long (sv.toInt64)), (.int (Int32.ofNat (own_nd (own_n sv)))), (.int 9), (.long (1000000000 : Int64))]) (rest := []) (lenOf own_pd20 rfl) rfl (by show 2 * 0 + _ ≤ _; exact Nat.le_of_eq rfl) (hb hby own_d39_350) (fun _ _ => ⟨rfl, e122, (by decide : 1 + 0 ≤ _), (by decide : 33 + 0 ≤ _)⟩)
   dsimp only [Pt.U, Pt.locs, Pt.cells, Pt.slots] at X123 l123 y123 z123 st123 hQ123
   subst l123 y123 z123
   obtain ⟨h123, e123⟩ : ∃ z, T123.heap = z := ⟨_, rfl⟩
   rw [e123] at hQ123
   obtain ⟨rfl, N123q, Kc123, Vc123⟩ := hQ123
   have N123 := Fr.app N122 N123q
   have K123 : Keep h0 h123 [] := K122.trans Kc123 (allS (Or.inr hz_b67) all0)
   have Z123 : n0 ≤ h123.size := Nat.le_trans Z122 Kc123.1
   have O123 := O122.keep Kc123 (allS g_b67 all0)
   have Vq123 : Arv Z h123 b67 k67 .char (own_L sv) ((own_pw sv (own_nd (own_n sv)) (own_tl sv) (own_base sv) 10).map Value.int) (.int 0) := Vc123
   refine own_st (T' := T123) (g' := (mkF m 353 #[vi sv, vi 0, vl (sv.toInt64), .second, vi (Int32.ofNat (own_nd (own_n sv))), vi (own_L sv), vr b67] [])) st123 ?_
   obtain ⟨T124, h124, X124, e124, E124, A124, D124, U124, st124⟩ := newO X123 hx hZ hown (own_w hw 226 rfl) (own_w hw 39 rfl) (own_w hw 32 rfl) e123 (g := (mkF m 353 #[vi sv, vi 0, vl (sv.toInt64), .second, vi (Int32.ofNat (own_nd (own_n sv))), vi (own_L sv), vr b67] [])) rfl (hb hby own_d39_353) (by decide) (by decide)
   obtain ⟨b124, g124⟩ : ∃ z, z = h123.size := ⟨_, rfl⟩
   rw [← g124] at A124 D124 U124 st124
   have sz124 : h123.size ≤ b124 := Nat.le_of_eq g124.symm
   have ne_b67_b124 : b67 ≠ b124 := Nat.ne_of_lt (Nat.lt_of_lt_of_le Vq123.lt sz124)
   have g_b124 : n0 ≤ b124 := Nat.le_trans Z123 sz124
   have hz_b124 : h0.size ≤ b124 := Nat.le_trans K123.1 sz124
   have K124 : Keep h0 h124 [] := K123.ext E124
   have Z124 : n0 ≤ h124.size := Nat.le_trans Z123 E124.1
   have O124 := O123.ext E124
   refine own_st (T' := T124) (g' := (mkF m 356 #[vi sv, vi 0, vl (sv.toInt64), .second, vi (Int32.ofNat (own_nd (own_n sv))), vi (own_L sv), vr b67] [(.ref b124)])) st124 ?_
   refine own_st (T' := T124) (g' := (mkF m 359 #[vi sv, vi 0, vl (sv.toInt64), .second, vi (Int32.ofNat (own_nd (own_n sv))), vi (own_L sv), vr b67] [(.ref b67), (.ref b124), (.ref b124)])) (fun t k => ?_) ?_
   ·refine XS.dup X124.here hx rfl (hb hby own_d39_356) rfl rfl ?_
    refine XS.aload X124.here hx rfl (hb hby own_d39_357) rfl rfl ?_
    exact k
   have f125 := Vq123.ext E124
   have f126 := S_cs.ext O124.2
   obtain ⟨_, _, ⟨T127, L127, c127, n127⟩, -, X127, ⟨Lc127, hQ127, l127, y127, z127⟩, st127⟩ := X124.specialBack hx (y := own_y32) rfl hown (om hZ hw 227 rfl) (om hZ hw 228 rfl) (om hZ hw 229 rfl) (by decide) (own_bmore (Qv := StrChars.Road.QV Z b124 (own_L sv) ((own_exp sv).map fun c => c.toInt8.toInt32) h124 n0) (StrChars.Road.backV (W := 1) hZ hwv (kI := 4) (own_w hw 39 rfl) (cs := own_exp sv) (bs := ((own_exp sv).map fun c => c.toInt8.toInt32)) (n := own_tl sv) g_b124 Z124 A124 (D124 (Or.inr (own_w hw 40 rfl)) (ty := (.array .byte)) (by decide) : Fld Z h124 b124 "java/lang/String" "value" "[B" .null) (D124 (Or.inr (own_w hw 41 rfl)) (ty := .byte) (by decide) : Fld Z h124 b124 "java/lang/String" "coder" "B" (.int 0)) f125 f126 hcs (own_exp_len sv) rfl (Nat.lt_of_lt_of_le (by decide) (own_tl_r sv).1) (Nat.le_trans (own_tl_r sv).2 (by decide)) (own_hb2 (own_G_exp sv)) rfl (by decide) (by decide)) (own_tl_r sv).2) (g := (mkF m 359 #[vi sv, vi 0, vl (sv.toInt64), .second, vi (Int32.ofNat (own_nd (own_n sv))), vi (own_L sv), vr b67] [(.ref b67), (.ref b124), (.ref b124)])) rfl (by rw [hml]; rfl) (Steps.refl _) (a := b124) (argsL := [(.ref b67)]) (rest := [(.ref b124)]) (lenOf own_pd21 rfl) rfl (by show 2 * 0 + _ ≤ _; exact Nat.le_of_eq rfl) (hb hby own_d39_359) (fun _ _ => ⟨rfl, e124, (by decide : 2 + 1 ≤ _), (by decide : 37 + 33 ≤ _)⟩)
   dsimp only [Pt.U, Pt.locs, Pt.cells, Pt.slots] at X127 l127 y127 z127 st127 hQ127
   subst l127 y127 z127
   obtain ⟨h127, e127⟩ : ∃ z, T127.heap = z := ⟨_, rfl⟩
   rw [e127] at hQ127
   obtain ⟨rfl, N127q, Kc127, -, Cc127, t127, kb127, g127, hz127, -, Fv127, Vc127⟩ := hQ127
   have N127 := Fr.app N123 N127q
   have ne_b67_t127 : b67 ≠ t127 := Nat.ne_of_lt (Nat.lt_of_lt_of_le f125.lt hz127)
   have ne_b124_t127 : b124 ≠ t127 := Nat.ne_of_lt (Nat.lt_of_lt_of_le A124.lt hz127)
   have hwt127 : h0.size ≤ t127 := Nat.le_trans K124.1 hz127
   have K127 : Keep h0 h127 [] := K124.trans Kc127 (allS (Or.inr hz_b124) all0)
   have Z127 : n0 ≤ h127.size := Nat.le_trans Z124 Kc127.1
   have O127 := O124.keep Kc127 (allS g_b124 all0)
   refine own_tr (T' := T127) (g' := (mkF m 362 #[vi sv, vi 0, vl (sv.toInt64), .second, vi (Int32.ofNat (own_nd (own_n sv))), vi (own_L sv), vr b67] [(.ref b124)])) st127 ?_
   have f128 := A124.keep Kc127
   exact own_retA X127 hx Bd rfl rfl (hb hby own_d39_362) e127 (⟨b124, t127, kb127, rfl, N127, K127, f128, Cc127, Fv127, Vc127⟩) (by decide) (by decide)
  exact Jq T111 _ X111 N111 e111
def own_r50 : Room := { frames := 1, cells := 0, slots := 0, locals := 12 }
def own_Q50 (Z : State) (a : Addr) (h0 : Heap) (n0 : Nat) : Option Value → Heap → List Loc → Prop := fun v h L => v = none ∧ Fr n0 L ∧ h = h0
theorem own_rm50 (l : Launch) (Z : State) (a0 : Array Value) (hw : own_W a0 Z) (a : Addr) (h0 : Heap) (n0 : Nat) (Z0 : n0 ≤ h0.size) :
  own_MF l Z own_y33 (Jvm.Cond.code own_y33 jdk_18_method_1_code 1 none) [] own_r50 #[(.ref a)] h0 (own_Q50 Z a h0 n0) := by
 refine own_open (plainFor_of_name own_pn7) hisR (Ls := #[vr a]) ?_
 intro p e s m below meth c s₁ Bd hZ hx hby hml hown X0 e0
 have N0 := Fr.nil n0
 refine own_st (T' := s₁) (g' := (mkF m 1 #[vr a] [(.ref a)])) (fun t k => ?_) ?_
 ·refine XS.aloadN X0.here hx rfl (hb hby own_d50_0) rfl rfl ?_
  exact k
 obtain ⟨T1, X1, e1, st1⟩ := initO X0 hx hZ hown (own_w hw 266 rfl) (own_w hw 29 rfl) (own_w hw 30 rfl) e0 (g := (mkF m 1 #[vr a] [(.ref a)])) rfl (by rw [hml]; rfl) rfl (hb hby own_d50_1) (by decide) (W := 0) (by show 2 * 0 + _ ≤ _; exact Nat.le_of_eq rfl) (by decide)
 refine own_st (T' := T1) (g' := (mkF m 4 #[vr a] [])) st1 ?_
 exact own_retV X1 hx Bd (hb hby own_d50_4) e1 (⟨rfl, N0, rfl⟩) (by decide) (by decide)
def own_r49 : Room := { frames := 2, cells := 0, slots := 0, locals := 24 }
def own_Q49 (Z : State) (b : Addr) (xv : Int32) (h0 : Heap) (n0 : Nat) : Option Value → Heap → List Loc → Prop := fun v h L => v = none ∧ Fr n0 L ∧ Keep h0 h [b] ∧ Fld Z h b "java/lang/Integer" "value" "I" (.int xv)
theorem own_rm49 (l : Launch) (Z : State) (a0 : Array Value) (hw : own_W a0 Z) (b : Addr) (xv : Int32) (h0 : Heap) (n0 : Nat) (Z0 : n0 ≤ h0.size) (E_b : Exa Z h0 b "java/lang/Integer") (F_b : Fld Z h0 b "java/lang/Integer" "value" "I" (.int 0)) (g_b : n0 ≤ b) :
  own_MF l Z own_y34 (Jvm.Cond.code own_y34 jdk_33_method_23_code 2 none) [] own_r49 #[(.ref b), (.int xv)] h0 (own_Q49 Z b xv h0 n0) := by
 refine own_open (plainFor_of_name own_pn0) hisR (Ls := #[vr b, vi xv]) ?_
 intro p e s m below meth c s₁ Bd hZ hx hby hml hown X0 e0
 have N0 := Fr.nil n0
 have hnm := (name_of_methodNamed Bd.named Bd.method).1
 refine own_st (T' := s₁) (g' := (mkF m 1 #[vr b, vi xv] [(.ref b)])) (fun t k => ?_) ?_
 ·refine XS.aloadN X0.here hx rfl (hb hby own_d49_0) rfl rfl ?_
  exact k
 obtain ⟨_, _, ⟨T1, L1, c1, n1⟩, -, X1, ⟨Lc1, hQ1, l1, y1, z1⟩, st1⟩ := X0.specialBack hx (y := own_y33) rfl hown (om hZ hw 260 rfl) (om hZ hw 261 rfl) (om hZ hw 265 rfl) (by decide) (backOf (W := 0) (own_rm50 l Z a0 hw b h0 n0 Z0) hZ (own_w hw 265 rfl) (own_w hw 264 rfl) (by decide) (by decide)) (g := (mkF m 1 #[vr b, vi xv] [(.ref b)])) rfl (by rw [hml]; rfl) (Steps.refl _) (a := b) (argsL := []) (rest := []) (lenOf own_pd22 rfl) rfl (by show 2 * 0 + _ ≤ _; exact Nat.le_of_eq rfl) (hb hby own_d49_1) (fun _ _ => ⟨rfl, e0, (by decide : 0 + 0 ≤ _), (by decide : 0 + 0 ≤ _)⟩)
 dsimp only [Pt.U, Pt.locs, Pt.cells, Pt.slots] at X1 l1 y1 z1 st1 hQ1
 subst l1 y1 z1
 obtain ⟨rfl, N1q, e1⟩ := hQ1
 have N1 := Fr.app N0 N1q
 refine own_tr (T' := T1) (g' := (mkF m 4 #[vr b, vi xv] [])) st1 ?_
 refine own_st (T' := T1) (g' := (mkF m 6 #[vr b, vi xv] [(.int xv), (.ref b)])) (fun t k => ?_) ?_
 ·refine XS.aloadN X1.here hx rfl (hb hby own_d49_4) rfl rfl ?_
  refine XS.iloadN X1.here hx rfl (hb hby own_d49_5) rfl ?_
  exact k
 obtain ⟨T2, h2, X2, e2, W2, st2⟩ := putF X1 hx hZ hown (host := "") (Or.inl (own_w hw 193 rfl)) Via.refl e1 F_b E_b (Or.inr ⟨(own_w hw 194 rfl), rfl, hnm⟩) (own_w hw 255 rfl) (ty := .int) (by decide) rfl rfl (g := (mkF m 6 #[vr b, vi xv] [(.int xv), (.ref b)])) rfl rfl (hb hby own_d49_6)
 have N2 := Fr.snoc X2 N1 g_b
 have K2 : Keep h0 h2 [b] := (Keep.refl h0 [b]).wr W2 (Or.inl (List.mem_of_getElem? (i := 0) rfl))
 have Z2 : n0 ≤ h2.size := Nat.le_trans Z0 (Keep.of_wr W2).1
 have fw2 := (F_b.same W2)
 refine own_st (T' := T2) (g' := (mkF m 9 #[vr b, vi xv] [])) st2 ?_
 exact own_retV X2 hx Bd (hb hby own_d49_9) e2 (⟨rfl, N2, K2, fw2⟩) (by decide) (by decide)
def own_r36 : Room := { frames := 0, cells := 0, slots := 0, locals := 0 }
theorem own_rm36 (l : Launch) (Z : State) (a0 : Array Value) (hw : own_W a0 Z) (b : Addr) (xv : Int32) (h0 : Heap) (n0 : Nat) (Z0 : n0 ≤ h0.size) (F_b : Fld Z h0 b "java/lang/Integer" "value" "I" (.int xv)) :
  own_MF l Z own_y35 (Jvm.Cond.code own_y35 jdk_33_method_27_code 1 (some .int)) [] own_r36 #[(.ref b)] h0 (own_P h0 n0 (.int xv)) := by
 refine own_open (plainFor_of_name own_pn0) hisR (Ls := #[vr b]) ?_
 intro p e s m below meth c s₁ Bd hZ hx hby hml hown X0 e0
 have N0 := Fr.nil n0
 refine own_st (T' := s₁) (g' := (mkF m 1 #[vr b] [(.ref b)])) (fun t k => ?_) ?_
 ·refine XS.aloadN X0.here hx rfl (hb hby own_d36_0) rfl rfl ?_
  exact k
 obtain ⟨T1, X1, e1, st1⟩ := getF X0 hx hZ hown (host := "") (Or.inl (own_w hw 193 rfl)) Via.refl e0 F_b (g := (mkF m 1 #[vr b] [(.ref b)])) rfl rfl (hb hby own_d36_1)
 refine own_st (T' := T1) (g' := (mkF m 4 #[vr b] [(.int xv)])) st1 ?_
 exact own_retI X1 hx Bd (hb hby own_d36_4) e1 (⟨rfl, N0, rfl⟩) (by decide) (by decide)
def own_r2 : Room := { frames := 3, cells := 1, slots := 1, locals := 38 }
def own_Q2 (Z : State) (xv : Int32) (ca : Addr) (cc : Cell) (h0 : Heap) (n0 : Nat) : Option Value → Heap → List Loc → Prop := fun v h L => ∃ r, v = some (.ref r) ∧ Fr n0 L ∧ Keep h0 h [] ∧ Exa Z h r "java/lang/Integer" ∧ Fld Z h r "java/lang/Integer" "value" "I" (.int xv) ∧ (r < n0 ∨ h0.size ≤ r)
theorem own_rm2 (l : Launch) (Z : State) (a0 : Array Value) (hw : own_W a0 Z) (xv : Int32) (ca : Addr) (cc : Cell) (h0 : Heap) (n0 : Nat) (Z0 : n0 ≤ h0.size) (O0 : Old Z n0 h0) (S_hi : Sta Z Z.heap "java/lang/Integer$IntegerCache" "high" "I" (.int 127)) (S_ca : Sta Z Z.heap "java/lang/Integer$IntegerCache" "cache" "[Ljava/lang/Integer;" (.ref ca)) (B_c : Bxs Z ca cc "java/lang/Integer" "I" (256 : Int32) (fun j => .int (j - 128))) :
  own_MF l Z own_y36 (Jvm.Cond.code own_y36 jdk_33_method_22_code 1 (some (.object "java/lang/Integer"))) [] own_r2 #[(.int xv)] h0 (own_Q2 Z xv ca cc h0 n0) := by
 refine own_open (plainFor_of_name own_pn0) hisR (Ls := #[vi xv]) ?_
 intro p e s m below meth c s₁ Bd hZ hx hby hml hown X0 e0
 have N0 := Fr.nil n0
 refine own_st (T' := s₁) (g' := (mkF m 3 #[vi xv] [(.int (-128)), (.int xv)])) (fun t k => ?_) ?_
 ·refine XS.iloadN X0.here hx rfl (hb hby own_d2_0) rfl ?_
  refine XS.bipush X0.here hx rfl (hb hby own_d2_1) ?_
  exact k
 by_cases hc1 : xv < (-128 : Int32)
 ·refine own_st (T' := s₁) (g' := (mkF m 23 #[vi xv] [])) (fun t k => ?_) ?_
  ·refine XS.icmpYes X0.here hx rfl (pc0 := 3) (pc' := 23) rfl (hb hby own_d2_3) rfl (tlt hc1).1 (by decide) (by decide) ?_
   exact k
  obtain ⟨T2, h2, X2, e2, E2, A2, D2, U2, st2⟩ := newO X0 hx hZ hown (own_w hw 254 rfl) (own_w hw 255 rfl) (own_w hw 8 rfl) e0 (g := (mkF m 23 #[vi xv] [])) rfl (hb hby own_d2_23) (by decide) (by decide)
  obtain ⟨b2, g2⟩ : ∃ z, z = h0.size := ⟨_, rfl⟩
  rw [← g2] at A2 D2 U2 st2
  have sz2 : h0.size ≤ b2 := Nat.le_of_eq g2.symm
  have g_b2 : n0 ≤ b2 := Nat.le_trans Z0 sz2
  have hz_b2 : h0.size ≤ b2 := Nat.le_trans (Keep.refl h0 []).1 sz2
  have K2 : Keep h0 h2 [] := (Keep.refl h0 []).ext E2
  have Z2 : n0 ≤ h2.size := Nat.le_trans Z0 E2.1
  have O2 := O0.ext E2
  refine own_st (T' := T2) (g' := (mkF m 26 #[vi xv] [(.ref b2)])) st2 ?_
  refine own_st (T' := T2) (g' := (mkF m 28 #[vi xv] [(.int xv), (.ref b2), (.ref b2)])) (fun t k => ?_) ?_
  ·refine XS.dup X2.here hx rfl (hb hby own_d2_26) rfl rfl ?_
   refine XS.iloadN X2.here hx rfl (hb hby own_d2_27) rfl ?_
   exact k
  obtain ⟨_, _, ⟨T3, L3, c3, n3⟩, -, X3, ⟨Lc3, hQ3, l3, y3, z3⟩, st3⟩ := X2.specialBack hx (y := own_y34) rfl hown (om hZ hw 256 rfl) (om hZ hw 257 rfl) (om hZ hw 259 rfl) (by decide) (backOf (W := 1) (own_rm49 l Z a0 hw b2 xv h2 n0 Z2 A2 (D2 (Or.inr (own_w hw 194 rfl)) (ty := .int) (by decide) : Fld Z h2 b2 "java/lang/Integer" "value" "I" (.int 0)) g_b2) hZ (own_w hw 259 rfl) (own_w hw 8 rfl) (by decide) (by decide)) (g := (mkF m 28 #[vi xv] [(.int xv), (.ref b2), (.ref b2)])) rfl (by rw [hml]; rfl) (Steps.refl _) (a := b2) (argsL := [(.int xv)]) (rest := [(.ref b2)]) (lenOf own_pd2 rfl) rfl (by show 2 * 0 + _ ≤ _; exact Nat.le_of_eq rfl) (hb hby own_d2_28) (fun _ _ => ⟨rfl, e2, (by decide : 1 + 0 ≤ _), (by decide : 1 + 0 ≤ _)⟩)
  dsimp only [Pt.U, Pt.locs, Pt.cells, Pt.slots] at X3 l3 y3 z3 st3 hQ3
  subst l3 y3 z3
  obtain ⟨h3, e3⟩ : ∃ z, T3.heap = z := ⟨_, rfl⟩
  rw [e3] at hQ3
  obtain ⟨rfl, N3q, Kc3, Fc3⟩ := hQ3
  have N3 := Fr.app N0 N3q
  have K3 : Keep h0 h3 [] := K2.trans Kc3 (allS (Or.inr hz_b2) all0)
  have Z3 : n0 ≤ h3.size := Nat.le_trans Z2 Kc3.1
  have O3 := O2.keep Kc3 (allS g_b2 all0)
  refine own_tr (T' := T3) (g' := (mkF m 31 #[vi xv] [(.ref b2)])) st3 ?_
  have f4 := A2.keep Kc3
  exact own_retA X3 hx Bd rfl rfl (hb hby own_d2_31) e3 (⟨b2, rfl, N3, K3, f4, Fc3, Or.inr hz_b2⟩) (by decide) (by decide)
 ·refine own_st (T' := s₁) (g' := (mkF m 7 #[vi xv] [(.int xv)])) (fun t k => ?_) ?_
  ·refine XS.icmpNo X0.here hx rfl (hb hby own_d2_3) rfl (flt hc1).1 ?_
   refine XS.iloadN X0.here hx rfl (hb hby own_d2_6) rfl ?_
   exact k
  have f5 := S_hi.ext O0.2
  obtain ⟨T6, X6, e6, st6⟩ := getS2 X0 hx hZ hown (host := "") (Or.inl (own_w hw 10 rfl)) Via.refl e0 f5 (g := (mkF m 7 #[vi xv] [(.int xv)])) rfl (hb hby own_d2_7)
  refine own_st (T' := T6) (g' := (mkF m 10 #[vi xv] [(.int 127), (.int xv)])) st6 ?_
  by_cases hc7 : (127 : Int32) < xv
  ·refine own_st (T' := T6) (g' := (mkF m 23 #[vi xv] [])) (fun t k => ?_) ?_
   ·refine XS.icmpYes X6.here hx rfl (pc0 := 10) (pc' := 23) rfl (hb hby own_d2_10) rfl (tlt hc7).2.2.1 (by decide) (by decide) ?_
    exact k
   obtain ⟨T8, h8, X8, e8, E8, A8, D8, U8, st8⟩ := newO X6 hx hZ hown (own_w hw 254 rfl) (own_w hw 255 rfl) (own_w hw 8 rfl) e6 (g := (mkF m 23 #[vi xv] [])) rfl (hb hby own_d2_23) (by decide) (by decide)
   obtain ⟨b8, g8⟩ : ∃ z, z = h0.size := ⟨_, rfl⟩
   rw [← g8] at A8 D8 U8 st8
   have sz8 : h0.size ≤ b8 := Nat.le_of_eq g8.symm
   have g_b8 : n0 ≤ b8 := Nat.le_trans Z0 sz8
   have hz_b8 : h0.size ≤ b8 := Nat.le_trans (Keep.refl h0 []).1 sz8
   have K8 : Keep h0 h8 [] := (Keep.refl h0 []).ext E8
   have Z8 : n0 ≤ h8.size := Nat.le_trans Z0 E8.1
   have O8 := O0.ext E8
   refine own_st (T' := T8) (g' := (mkF m 26 #[vi xv] [(.ref b8)])) st8 ?_
   refine own_st (T' := T8) (g' := (mkF m 28 #[vi xv] [(.int xv), (.ref b8), (.ref b8)])) (fun t k => ?_) ?_
   ·refine XS.dup X8.here hx rfl (hb hby own_d2_26) rfl rfl ?_
    refine XS.iloadN X8.here hx rfl (hb hby own_d2_27) rfl ?_
    exact k
   obtain ⟨_, _, ⟨T9, L9, c9, n9⟩, -, X9, ⟨Lc9, hQ9, l9, y9, z9⟩, st9⟩ := X8.specialBack hx (y := own_y34) rfl hown (om hZ hw 256 rfl) (om hZ hw 257 rfl) (om hZ hw 259 rfl) (by decide) (backOf (W := 1) (own_rm49 l Z a0 hw b8 xv h8 n0 Z8 A8 (D8 (Or.inr (own_w hw 194 rfl)) (ty := .int) (by decide) : Fld Z h8 b8 "java/lang/Integer" "value" "I" (.int 0)) g_b8) hZ (own_w hw 259 rfl) (own_w hw 8 rfl) (by decide) (by decide)) (g := (mkF m 28 #[vi xv] [(.int xv), (.ref b8), (.ref b8)])) rfl (by rw [hml]; rfl) (Steps.refl _) (a := b8) (argsL := [(.int xv)]) (rest := [(.ref b8)]) (lenOf own_pd2 rfl) rfl (by show 2 * 0 + _ ≤ _; exact Nat.le_of_eq rfl) (hb hby own_d2_28) (fun _ _ => ⟨rfl, e8, (by decide : 1 + 0 ≤ _), (by decide : 1 + 0 ≤ _)⟩)
   dsimp only [Pt.U, Pt.locs, Pt.cells, Pt.slots] at X9 l9 y9 z9 st9 hQ9
   subst l9 y9 z9
   obtain ⟨h9, e9⟩ : ∃ z, T9.heap = z := ⟨_, rfl⟩
   rw [e9] at hQ9
   obtain ⟨rfl, N9q, Kc9, Fc9⟩ := hQ9
   have N9 := Fr.app N0 N9q
   have K9 : Keep h0 h9 [] := K8.trans Kc9 (allS (Or.inr hz_b8) all0)
   have Z9 : n0 ≤ h9.size := Nat.le_trans Z8 Kc9.1
   have O9 := O8.keep Kc9 (allS g_b8 all0)
   refine own_tr (T' := T9) (g' := (mkF m 31 #[vi xv] [(.ref b8)])) st9 ?_
   have f10 := A8.keep Kc9
   exact own_retA X9 hx Bd rfl rfl (hb hby own_d2_31) e9 (⟨b8, rfl, N9, K9, f10, Fc9, Or.inr hz_b8⟩) (by decide) (by decide)
  ·refine own_st (T' := T6) (g' := (mkF m 13 #[vi xv] [])) (fun t k => ?_) ?_
   ·refine XS.icmpNo X6.here hx rfl (hb hby own_d2_10) rfl (flt hc7).2.2.1 ?_
    exact k
   have f11 := S_ca.ext O0.2
   obtain ⟨T12, X12, e12, st12⟩ := getS2 X6 hx hZ hown (host := "") (Or.inl (own_w hw 12 rfl)) Via.refl e6 f11 (g := (mkF m 13 #[vi xv] [])) rfl (hb hby own_d2_13)
   refine own_st (T' := T12) (g' := (mkF m 16 #[vi xv] [(.ref ca)])) st12 ?_
   refine own_st (T' := T12) (g' := (mkF m 21 #[vi xv] [(.int (xv + (128 : Int32))), (.ref ca)])) (fun t k => ?_) ?_
   ·refine XS.iloadN X12.here hx rfl (hb hby own_d2_16) rfl ?_
    refine XS.sipush X12.here hx rfl (hb hby own_d2_17) ?_
    refine XS.iadd X12.here hx rfl (hb hby own_d2_20) rfl ?_
    exact k
   have hin := own_cidx hc1 hc7
   obtain ⟨rb, at_b, E_b, F_b⟩ := B_c.2.2.2 (xv + (128 : Int32)) (by rw [B_c.2.1]; exact hin)
   have A_c := (B_c.ext O0.2).1
   simp only [own_cval] at F_b
   have hlt : rb < n0 := O0.1 ▸ E_b.lt
   refine own_st (T' := T12) (g' := (mkF m 22 #[vi xv] [(.ref rb)])) (fun t k => ?_) ?_
   ·refine X12.aaload hx (j := (xv + (128 : Int32))) (v := (.ref rb)) (by rw [e12]; exact A_c.1) (State.isArrayOf_alike hZ.alike A_c.2.1) rfl A_c.2.2 (by rw [B_c.2.1]; exact hin) at_b (g := (mkF m 21 #[vi xv] [(.int (xv + (128 : Int32))), (.ref ca)])) rfl rfl (hb hby own_d2_21) _ ?_
    exact k
   exact own_retA X12 hx Bd rfl rfl (hb hby own_d2_22) e12 (⟨rb, rfl, N0, (Keep.refl h0 []), E_b.ext O0.2, F_b.ext O0.2, Or.inl hlt⟩) (by decide) (by decide)
def own_r3 : Room := { frames := 0, cells := 0, slots := 0, locals := 0 }
theorem own_rm3 (l : Launch) (Z : State) (a0 : Array Value) (hw : own_W a0 Z) (sv : Int32) (h0 : Heap) (n0 : Nat) (Z0 : n0 ≤ h0.size) :
  own_MF l Z own_y37 (Jvm.Cond.code own_y37 prog_28_method_7_code 1 (some .boolean)) [] own_r3 #[(.int sv)] h0 (own_P h0 n0 (.int (own_ok sv))) := by
 refine own_open (plainFor_of_name own_pn8) hisR (Ls := #[vi sv]) ?_
 intro p e s m below meth c s₁ Bd hZ hx hby hml hown X0 e0
 have N0 := Fr.nil n0
 refine own_st (T' := s₁) (g' := (mkF m 4 #[vi sv] [(.int 200), (.int sv)])) (fun t k => ?_) ?_
 ·refine XS.iloadN X0.here hx rfl (hb hby own_d3_0) rfl ?_
  refine XS.sipush X0.here hx rfl (hb hby own_d3_1) ?_
  exact k
 by_cases h2 : sv < (200 : Int32)
 ·refine own_st (T' := s₁) (g' := (mkF m 19 #[vi sv] [(.int 0)])) (fun t k => ?_) ?_
  ·refine XS.icmpYes X0.here hx rfl (pc0 := 4) (pc' := 18) rfl (hb hby own_d3_4) rfl (tlt h2).1 (by decide) (by decide) ?_
   refine XS.iconst X0.here hx rfl (hb hby own_d3_18) ?_
   exact k
  exact own_retN X0 hx Bd (t := .boolean) (by simp) rfl (hb hby own_d3_19) e0 (⟨by rw [own_okl h2], N0, rfl⟩) (by decide) (by decide)
 ·refine own_st (T' := s₁) (g' := (mkF m 11 #[vi sv] [(.int 299), (.int sv)])) (fun t k => ?_) ?_
  ·refine XS.icmpNo X0.here hx rfl (hb hby own_d3_4) rfl (flt h2).1 ?_
   refine XS.iloadN X0.here hx rfl (hb hby own_d3_7) rfl ?_
   refine XS.sipush X0.here hx rfl (hb hby own_d3_8) ?_
   exact k
  by_cases h3 : (299 : Int32) < sv
  ·refine own_st (T' := s₁) (g' := (mkF m 19 #[vi sv] [(.int 0)])) (fun t k => ?_) ?_
   ·refine XS.icmpYes X0.here hx rfl (pc0 := 11) (pc' := 18) rfl (hb hby own_d3_11) rfl (tlt h3).2.2.1 (by decide) (by decide) ?_
    refine XS.iconst X0.here hx rfl (hb hby own_d3_18) ?_
    exact k
   exact own_retN X0 hx Bd (t := .boolean) (by simp) rfl (hb hby own_d3_19) e0 (⟨by rw [own_okg h2 h3], N0, rfl⟩) (by decide) (by decide)
  ·refine own_st (T' := s₁) (g' := (mkF m 19 #[vi sv] [(.int 1)])) (fun t k => ?_) ?_
   ·refine XS.icmpNo X0.here hx rfl (hb hby own_d3_11) rfl (flt h3).2.2.1 ?_
    refine XS.iconst X0.here hx rfl (hb hby own_d3_14) ?_
    refine XS.goto X0.here hx rfl (pc0 := 15) (pc' := 19) rfl (hb hby own_d3_15) (by decide) (by decide) ?_
    exact k
   exact own_retN X0 hx Bd (t := .boolean) (by simp) rfl (hb hby own_d3_19) e0 (⟨by rw [own_ok1 h2 h3], N0, rfl⟩) (by decide) (by decide)
def own_r35 : Room := { frames := 0, cells := 0, slots := 0, locals := 0 }
theorem own_rm35 (l : Launch) (Z : State) (a0 : Array Value) (hw : own_W a0 Z) (b : Addr) (yv : Value) (h0 : Heap) (n0 : Nat) (Z0 : n0 ≤ h0.size) (hyv : yv.isRef = true) (F_b : Fld Z h0 b "com/example/durable_cron/durablecron/store/RequestOutcome" "statusCode" "Ljava/lang/Integer;" yv) :
  own_MF l Z own_y38 (Jvm.Cond.code own_y38 prog_28_method_5_code 1 (some (.object "java/lang/Integer"))) [] own_r35 #[(.ref b)] h0 (own_P h0 n0 yv) := by
 refine own_open (plainFor_of_name own_pn8) hisR (Ls := #[vr b]) ?_
 intro p e s m below meth c s₁ Bd hZ hx hby hml hown X0 e0
 have N0 := Fr.nil n0
 refine own_st (T' := s₁) (g' := (mkF m 1 #[vr b] [(.ref b)])) (fun t k => ?_) ?_
 ·refine XS.aloadN X0.here hx rfl (hb hby own_d35_0) rfl rfl ?_
  exact k
 obtain ⟨T1, X1, e1, st1⟩ := getF X0 hx hZ hown (host := "") (Or.inl (own_w hw 179 rfl)) Via.refl e0 F_b (g := (mkF m 1 #[vr b] [(.ref b)])) rfl rfl (hb hby own_d35_1)
 refine own_st (T' := T1) (g' := (mkF m 4 #[vr b] [yv])) st1 ?_
 exact own_retA X1 hx Bd rfl hyv (hb hby own_d35_4) e1 (⟨rfl, N0, rfl⟩) (by decide) (by decide)
def own_r38 : Room := { frames := 0, cells := 0, slots := 0, locals := 0 }
theorem own_rm38 (l : Launch) (Z : State) (a0 : Array Value) (hw : own_W a0 Z) (b : Addr) (yv : Value) (h0 : Heap) (n0 : Nat) (Z0 : n0 ≤ h0.size) (hyv : yv.isRef = true) (F_b : Fld Z h0 b "com/example/durable_cron/durablecron/store/RequestOutcome" "failure" "Ljava/lang/String;" yv) :
  own_MF l Z own_y39 (Jvm.Cond.code own_y39 prog_28_method_6_code 1 (some (.object "java/lang/String"))) [] own_r38 #[(.ref b)] h0 (own_P h0 n0 yv) := by
 refine own_open (plainFor_of_name own_pn8) hisR (Ls := #[vr b]) ?_
 intro p e s m below meth c s₁ Bd hZ hx hby hml hown X0 e0
 have N0 := Fr.nil n0
 refine own_st (T' := s₁) (g' := (mkF m 1 #[vr b] [(.ref b)])) (fun t k => ?_) ?_
 ·refine XS.aloadN X0.here hx rfl (hb hby own_d38_0) rfl rfl ?_
  exact k
 obtain ⟨T1, X1, e1, st1⟩ := getF X0 hx hZ hown (host := "") (Or.inl (own_w hw 181 rfl)) Via.refl e0 F_b (g := (mkF m 1 #[vr b] [(.ref b)])) rfl rfl (hb hby own_d38_1)
 refine own_st (T' := T1) (g' := (mkF m 4 #[vr b] [yv])) st1 ?_
 exact own_retA X1 hx Bd rfl hyv (hb hby own_d38_4) e1 (⟨rfl, N0, rfl⟩) (by decide) (by decide)
def own_r34 : Room := { frames := 1, cells := 0, slots := 0, locals := 12 }
def own_Q34 (Z : State) (b : Addr) (y0 : Value) (y1 : Value) (h0 : Heap) (n0 : Nat) : Option Value → Heap → List Loc → Prop := fun v h L => v = none ∧ Fr n0 L ∧ Keep h0 h [b] ∧ Fld Z h b "com/example/durable_cron/durablecron/store/RequestOutcome" "statusCode" "Ljava/lang/Integer;" y0 ∧ Fld Z h b "com/example/durable_cron/durablecron/store/RequestOutcome" "failure" "Ljava/lang/String;" y1
theorem own_rm34 (l : Launch) (Z : State) (a0 : Array Value) (hw : own_W a0 Z) (b : Addr) (y0 : Value) (y1 : Value) (h0 : Heap) (n0 : Nat) (Z0 : n0 ≤ h0.size) (hy0 : y0.isRef = true) (hy1 : y1.isRef = true) (E_b : Exa Z h0 b "com/example/durable_cron/durablecron/store/RequestOutcome") (F0 : Fld Z h0 b "com/example/durable_cron/durablecron/store/RequestOutcome" "statusCode" "Ljava/lang/Integer;" .null) (F1 : Fld Z h0 b "com/example/durable_cron/durablecron/store/RequestOutcome" "failure" "Ljava/lang/String;" .null) (g_b : n0 ≤ b) :
  own_MF l Z own_y40 (Jvm.Cond.code own_y40 prog_28_method_1_code 3 none) [] own_r34 #[(.ref b), y0, y1] h0 (own_Q34 Z b y0 y1 h0 n0) := by
 refine own_open (plainFor_of_name own_pn8) hisR (Ls := #[vr b, .val y0, .val y1]) ?_ (fun m => by rcases ref_cases hy0 with rfl | ⟨y1, rfl⟩ <;> rcases ref_cases hy1 with rfl | ⟨y2, rfl⟩ <;> first | (simp [entryFrame, mkF, argsToLocals, Value.category]; done) | rfl)
 intro p e s m below meth c s₁ Bd hZ hx hby hml hown X0 e0
 have N0 := Fr.nil n0
 have hnm := (name_of_methodNamed Bd.named Bd.method).1
 refine own_st (T' := s₁) (g' := (mkF m 1 #[vr b, .val y0, .val y1] [(.ref b)])) (fun t k => ?_) ?_
 ·refine XS.aloadN X0.here hx rfl (hb hby own_d34_0) rfl rfl ?_
  exact k
 obtain ⟨T1, X1, e1, st1⟩ := initO X0 hx hZ hown (own_w hw 178 rfl) (own_w hw 29 rfl) (own_w hw 30 rfl) e0 (g := (mkF m 1 #[vr b, .val y0, .val y1] [(.ref b)])) rfl (by rw [hml]; rfl) rfl (hb hby own_d34_1) (by decide) (W := 0) (by show 2 * 0 + _ ≤ _; exact Nat.le_of_eq rfl) (by decide)
 refine own_st (T' := T1) (g' := (mkF m 4 #[vr b, .val y0, .val y1] [])) st1 ?_
 refine own_st (T' := T1) (g' := (mkF m 6 #[vr b, .val y0, .val y1] [y0, (.ref b)])) (fun t k => ?_) ?_
 ·refine XS.aloadN X1.here hx rfl (hb hby own_d34_4) rfl rfl ?_
  refine XS.aloadN X1.here hx rfl (hb hby own_d34_5) rfl hy0 ?_
  exact k
 obtain ⟨T2, h2, X2, e2, W2, st2⟩ := putF X1 hx hZ hown (host := "") (Or.inl (own_w hw 179 rfl)) Via.refl e1 F0 E_b (Or.inr ⟨(own_w hw 180 rfl), rfl, hnm⟩) (own_w hw 5 rfl) (ty := (.object "java/lang/Integer")) (by decide) (own_nar_ref hy0 rfl) (own_fits_ref hy0 rfl) (g := (mkF m 6 #[vr b, .val y0, .val y1] [y0, (.ref b)])) rfl rfl (hb hby own_d34_6)
 have N2 := Fr.snoc X2 N0 g_b
 have K2 : Keep h0 h2 [b] := (Keep.refl h0 [b]).wr W2 (Or.inl (List.mem_of_getElem? (i := 0) rfl))
 have Z2 : n0 ≤ h2.size := Nat.le_trans Z0 (Keep.of_wr W2).1
 have fw2 := (F0.same W2)
 refine own_st (T' := T2) (g' := (mkF m 9 #[vr b, .val y0, .val y1] [])) st2 ?_
 refine own_st (T' := T2) (g' := (mkF m 11 #[vr b, .val y0, .val y1] [y1, (.ref b)])) (fun t k => ?_) ?_
 ·refine XS.aloadN X2.here hx rfl (hb hby own_d34_9) rfl rfl ?_
  refine XS.aloadN X2.here hx rfl (hb hby own_d34_10) rfl hy1 ?_
  exact k
 have f3 := F1.other W2 (Or.inr (slot_ne (Or.inr (own_w hw 182 rfl)) (Or.inr (own_w hw 180 rfl)) (by decide) (t := (.object "java/lang/String")) (t' := (.object "java/lang/Integer")) (by decide) (by decide)))
 have f4 := E_b.wr W2
 obtain ⟨T5, h5, X5, e5, W5, st5⟩ := putF X2 hx hZ hown (host := "") (Or.inl (own_w hw 181 rfl)) Via.refl e2 f3 f4 (Or.inr ⟨(own_w hw 182 rfl), rfl, hnm⟩) (own_w hw 5 rfl) (ty := (.object "java/lang/String")) (by decide) (own_nar_ref hy1 rfl) (own_fits_ref hy1 rfl) (g := (mkF m 11 #[vr b, .val y0, .val y1] [y1, (.ref b)])) rfl rfl (hb hby own_d34_11)
 have N5 := Fr.snoc X5 N2 g_b
 have K5 : Keep h0 h5 [b] := K2.wr W5 (Or.inl (List.mem_of_getElem? (i := 0) rfl))
 have Z5 : n0 ≤ h5.size := Nat.le_trans Z2 (Keep.of_wr W5).1
 have fw5 := (f3.same W5)
 refine own_st (T' := T5) (g' := (mkF m 14 #[vr b, .val y0, .val y1] [])) st5 ?_
 have f6 := fw2.other W5 (Or.inr (slot_ne (Or.inr (own_w hw 180 rfl)) (Or.inr (own_w hw 182 rfl)) (by decide) (t := (.object "java/lang/Integer")) (t' := (.object "java/lang/String")) (by decide) (by decide)))
 exact own_retV X5 hx Bd (hb hby own_d34_14) e5 (⟨rfl, N5, K5, f6, fw5⟩) (by decide) (by decide)
def own_r37 : Room := { frames := 1, cells := 0, slots := 0, locals := 12 }
theorem own_rm37 (l : Launch) (Z : State) (a0 : Array Value) (hw : own_W a0 Z) (ro ib : Addr) (sv : Int32) (h0 : Heap) (n0 : Nat) (Z0 : n0 ≤ h0.size) (F_s : Fld Z h0 ro "com/example/durable_cron/durablecron/store/RequestOutcome" "statusCode" "Ljava/lang/Integer;" (.ref ib)) (E_i : Exa Z h0 ib "java/lang/Integer") (F_i : Fld Z h0 ib "java/lang/Integer" "value" "I" (.int sv)) :
  own_MF l Z own_y41 (Jvm.Cond.code own_y41 prog_28_method_4_code 1 (some .boolean)) [] own_r37 #[(.ref ro)] h0 (own_P h0 n0 (.int (own_ok sv))) := by
 refine own_open (plainFor_of_name own_pn8) hisR (Ls := #[vr ro]) ?_
 intro p e s m below meth c s₁ Bd hZ hx hby hml hown X0 e0
 have N0 := Fr.nil n0
 refine own_st (T' := s₁) (g' := (mkF m 1 #[vr ro] [(.ref ro)])) (fun t k => ?_) ?_
 ·refine XS.aloadN X0.here hx rfl (hb hby own_d37_0) rfl rfl ?_
  exact k
 obtain ⟨T1, X1, e1, st1⟩ := getF X0 hx hZ hown (host := "") (Or.inl (own_w hw 179 rfl)) Via.refl e0 F_s (g := (mkF m 1 #[vr ro] [(.ref ro)])) rfl rfl (hb hby own_d37_1)
 refine own_st (T' := T1) (g' := (mkF m 4 #[vr ro] [(.ref ib)])) st1 ?_
 refine own_st (T' := T1) (g' := (mkF m 8 #[vr ro] [(.ref ro)])) (fun t k => ?_) ?_
 ·refine XS.ifnullNo X1.here hx rfl (hb hby own_d37_4) rfl ?_
  refine XS.aloadN X1.here hx rfl (hb hby own_d37_7) rfl rfl ?_
  exact k
 obtain ⟨T2, X2, e2, st2⟩ := getF X1 hx hZ hown (host := "") (Or.inl (own_w hw 179 rfl)) Via.refl e1 F_s (g := (mkF m 8 #[vr ro] [(.ref ro)])) rfl rfl (hb hby own_d37_8)
 refine own_st (T' := T2) (g' := (mkF m 11 #[vr ro] [(.ref ib)])) st2 ?_
 obtain ⟨cq3, kq3, q3a, q3b, q3c⟩ := isOf hZ e2 E_i
 obtain ⟨_, _, ⟨T3, L3, c3, n3⟩, -, X3, ⟨Lc3, hQ3, l3, y3, z3⟩, st3⟩ := X2.virtualBack hx (y := own_y35) (z := own_y35) hown (om hZ hw 200 rfl) (om hZ hw 189 rfl) (notFace_of_selects (args := #[]) (om hZ hw 191 rfl)) (om hZ hw 191 rfl) (om hZ hw 190 rfl) (by decide) (backOf (W := 0) (own_rm36 l Z a0 hw ib sv h0 n0 Z0 F_i) hZ (own_w hw 192 rfl) (own_w hw 8 rfl) (by decide) (by decide)) q3a q3c (g := (mkF m 11 #[vr ro] [(.ref ib)])) rfl (by rw [hml]; rfl) (Steps.refl _) (argsL := []) (rest := []) (lenOf own_pd8 rfl) rfl (by show 2 * 0 + _ ≤ _; exact Nat.le_of_eq rfl) (hb hby own_d37_11) (fun _ _ => ⟨rfl, e2, (by decide : 0 + 0 ≤ _), (by decide : 0 + 0 ≤ _)⟩)
 dsimp only [Pt.U, Pt.locs, Pt.cells, Pt.slots] at X3 l3 y3 z3 st3 hQ3
 subst l3 y3 z3
 obtain ⟨rfl, N3q, e3⟩ := hQ3
 have N3 := Fr.app N0 N3q
 refine own_tr (T' := T3) (g' := (mkF m 14 #[vr ro] [(.int sv)])) st3 ?_
 obtain ⟨_, _, ⟨T4, L4, c4, n4⟩, -, X4, ⟨Lc4, hQ4, l4, y4, z4⟩, st4⟩ := Jvm.LawKit.callS X3 hx (y := own_y37) hown (om hZ hw 13 rfl) (om hZ hw 14 rfl) (om hZ hw 2 rfl) (om hZ hw 15 rfl) (by decide) (backOf (W := 0) (own_rm3 l Z a0 hw sv h0 n0 Z0 ) hZ (own_w hw 15 rfl) (own_w hw 2 rfl) (by decide) (by decide)) (g := (mkF m 14 #[vr ro] [(.int sv)])) rfl (by rw [hml]; rfl) (argsL := [(.int sv)]) (rest := []) (lenOf own_pd23 rfl) rfl (by show 2 * 0 + _ ≤ _; exact Nat.le_of_eq rfl) (hb hby own_d37_14) (fun _ _ => ⟨rfl, e3, (by decide : 0 + 0 ≤ _), (by decide : 0 + 0 ≤ _)⟩)
 dsimp only [Pt.U, Pt.locs, Pt.cells, Pt.slots] at X4 l4 y4 z4 st4 hQ4
 subst l4 y4 z4
 obtain ⟨rfl, N4q, e4⟩ := hQ4
 have N4 := Fr.app N3 N4q
 refine own_st (T' := T4) (g' := (mkF m 17 #[vr ro] [(.int (own_ok sv))])) st4 ?_
 by_cases hk0 : (own_ok sv) = (0 : Int32)
 ·refine own_st (T' := T4) (g' := (mkF m 25 #[vr ro] [(.int 0)])) (fun t k => ?_) ?_
  ·refine XS.ifYes X4.here hx rfl (pc0 := 17) (pc' := 24) rfl (hb hby own_d37_17) rfl ((if0 _ _).trans (teq hk0).1) (by decide) (by decide) ?_
   refine XS.iconst X4.here hx rfl (hb hby own_d37_24) ?_
   exact k
  exact own_retN X4 hx Bd (t := .boolean) (by simp) rfl (hb hby own_d37_25) e4 (⟨by rw [hk0], N4, rfl⟩) (by decide) (by decide)
 ·refine own_st (T' := T4) (g' := (mkF m 25 #[vr ro] [(.int 1)])) (fun t k => ?_) ?_
  ·refine XS.ifNo X4.here hx rfl (hb hby own_d37_17) rfl ((if0 _ _).trans (feq hk0).1) ?_
   refine XS.iconst X4.here hx rfl (hb hby own_d37_20) ?_
   refine XS.goto X4.here hx rfl (pc0 := 21) (pc' := 25) rfl (hb hby own_d37_21) (by decide) (by decide) ?_
   exact k
  exact own_retN X4 hx Bd (t := .boolean) (by simp) rfl (hb hby own_d37_25) e4 (⟨by rw [own_ok_n hk0], N4, rfl⟩) (by decide) (by decide)
def own_r1 : Room := { frames := 6, cells := 9, slots := 186, locals := 94 }
theorem own_ef1 (m : MethodId) (x0 : Int32) : entryFrame m #[(.int x0)] 1 = mkF m 0 #[vi x0] [] := by first | (simp [entryFrame, mkF, argsToLocals, Value.category]; done) | rfl
def own_Q1 (Z : State) (sv : Int32) (ca : Addr) (cc : Cell) (d1 d2 : Addr) (kd1 kd2 : ClassId) (cs : Int32) (h0 : Heap) (n0 : Nat) : Option Value → Heap → List Loc → Prop := fun v h L => ∃ ro ib sf t k, v = some (.ref ro) ∧ Fr n0 L ∧ Keep h0 h [] ∧ Exa Z h ro "com/example/durable_cron/durablecron/store/RequestOutcome" ∧ Fld Z h ro "com/example/durable_cron/durablecron/store/RequestOutcome" "statusCode" "Ljava/lang/Integer;" (.ref ib) ∧ Fld Z h ro "com/example/durable_cron/durablecron/store/RequestOutcome" "failure" "Ljava/lang/String;" (.ref sf) ∧ Exa Z h ib "java/lang/Integer" ∧ Fld Z h ib "java/lang/Integer" "value" "I" (.int sv) ∧ Exa Z h sf "java/lang/String" ∧ Fld Z h sf "java/lang/String" "coder" "B" (.int 0) ∧ Fld Z h sf "java/lang/String" "value" "[B" (.ref t) ∧ Arv Z h t k .byte (Int32.ofNat (own_res sv).length) ((own_res sv).map Value.int) (.int 0)
theorem own_rm1 (l : Launch) (Z : State) (a0 : Array Value) (hw : own_W a0 Z) (sv : Int32) (ca : Addr) (cc : Cell) (d1 d2 : Addr) (kd1 kd2 : ClassId) (cs : Int32) (h0 : Heap) (n0 : Nat) (Z0 : n0 ≤ h0.size) (O0 : Old Z n0 h0) (S_hi : Sta Z Z.heap "java/lang/Integer$IntegerCache" "high" "I" (.int 127)) (S_ca : Sta Z Z.heap "java/lang/Integer$IntegerCache" "cache" "[Ljava/lang/Integer;" (.ref ca)) (B_c : Bxs Z ca cc "java/lang/Integer" "I" (256 : Int32) (fun j => .int (j - 128))) (S_o : Sta Z Z.heap "java/lang/Integer" "DigitOnes" "[B" (.ref d1)) (S_t : Sta Z Z.heap "java/lang/Integer" "DigitTens" "[B" (.ref d2)) (V_o : Arv Z Z.heap d1 kd1 .byte (100 : Int32) (own_tab1.map Value.int) (.int 0)) (V_t : Arv Z Z.heap d2 kd2 .byte (100 : Int32) (own_tab2.map Value.int) (.int 0)) (hcs : ¬ cs = (0 : Int32)) (S_cs : Sta Z Z.heap "java/lang/String" "COMPACT_STRINGS" "Z" (.int cs)) :
  MetFree l own_y42 (head1 (Jvm.Cond.code own_y42 prog_28_method_2_code 1 (some (.object "com/example/durable_cron/durablecron/store/RequestOutcome")) :: []) own_r1) (fun a_ U_ => a_ = #[(.int sv)] ∧ Z.Warmed39 U_.vm ∧ U_.heap = h0 ∧ CHv Z consts_1 U_.vm h0) (fun _ _ _ _ _ => True) (fun _ U_ o_ U'_ => ∃ v_ L_, o_ = .returned v_ ∧ own_Q1 Z sv ca cc d1 d2 kd1 kd2 cs h0 n0 v_ U'_.heap L_ ∧ ReturnedEndW U_ o_ U'_ L_ own_r1.cells own_r1.slots) := by
 refine MetFree.of_bodySF (plainFor_of_name own_pn8) hisR ?_
 intro p e s m args below meth c s₁ Bd hml0 hP hK
 obtain ⟨rfl, hZ, hh, H0⟩ := hP
 have hx := Bd.exec
 have hby := Bd.bytes
 have hml : c.maxLocals = 1 := hml0
 have hown : s.vm.findClass "com/example/durable_cron/durablecron/store/RequestOutcome" = some m.cls := findClass_of_methodNamed Bd.named
 have hnm := (name_of_methodNamed Bd.named Bd.method).1
 have X0 : Stand p l e own_r1 s m #[(.int sv)] below meth c s₁ [] 0 0 := Stand.of_body Bd
 obtain ⟨v0, X0, hS0, hZ0, ho0, H0⟩ : ∃ v0, Stand p l e own_r1 (s.setVm v0) m #[(.int sv)] below meth c s₁ [] 0 0 ∧ s.Since v0 h0.size ∧ Z.Warmed39 (s.setVm v0).vm ∧ (s.setVm v0).vm.findClass "com/example/durable_cron/durablecron/store/RequestOutcome" = some m.cls ∧ CHv Z consts_1 v0 h0 := ⟨s.vm, X0, (State.WarmedH.refl s).since _, hZ, hown, H0⟩
 have hstr : ∀ d ∈ Bundle.stringAtoms, d.before a0 Z = true := fun d hd => hw d (own_sa d hd)
 have e0 : s₁.heap = h0 := by rw [← hh, Bd.state]; rfl
 have N0 := Fr.nil n0
 refine own_in (own_ef1 m sv) ?_
 show own_Go p e below (own_KW s (own_Q1 Z sv ca cc d1 d2 kd1 kd2 cs h0 n0) own_r1.cells own_r1.slots) s₁ (mkF m 0 #[vi sv] [])
 have hEL : EW Z a0 consts_1 := EW.cons (text := "") (own_w hw 267 rfl) (by decide) (EW.cons (text := "the receiver answered ") (own_w hw 38 rfl) own_ht32.1 EW.nil)
 obtain ⟨T1, h1, X1, e1, E1, A1, D1, U1, st1⟩ := newO X0 hx hZ0 ho0 (own_w hw 4 rfl) (own_w hw 5 rfl) (own_w hw 2 rfl) e0 (g := (mkF m 0 #[vi sv] [])) rfl (hb hby own_d1_0) (by decide) (by decide)
 obtain ⟨b1, g1⟩ : ∃ z, z = h0.size := ⟨_, rfl⟩
 rw [← g1] at A1 D1 U1 st1
 have sz1 : h0.size ≤ b1 := Nat.le_of_eq g1.symm
 have f2 := V_o.ext O0.2
 have ne_d1_b1 : d1 ≠ b1 := Nat.ne_of_lt (Nat.lt_of_lt_of_le f2.lt sz1)
 have f3 := V_t.ext O0.2
 have ne_d2_b1 : d2 ≠ b1 := Nat.ne_of_lt (Nat.lt_of_lt_of_le f3.lt sz1)
 have g_b1 : n0 ≤ b1 := Nat.le_trans Z0 sz1
 have hz_b1 : h0.size ≤ b1 := Nat.le_trans (Keep.refl h0 []).1 sz1
 have K1 : Keep h0 h1 [] := (Keep.refl h0 []).ext E1
 have Z1 : n0 ≤ h1.size := Nat.le_trans Z0 E1.1
 have O1 := O0.ext E1
 have hk1 := Nat.le_trans (Nat.le_refl _) E1.1
 refine own_st (T' := T1) (g' := (mkF m 3 #[vi sv] [(.ref b1)])) st1 ?_
 refine own_st (T' := T1) (g' := (mkF m 5 #[vi sv] [(.int sv), (.ref b1), (.ref b1)])) (fun t k => ?_) ?_
 ·refine XS.dup X1.here hx rfl (hb hby own_d1_3) rfl rfl ?_
  refine XS.iloadN X1.here hx rfl (hb hby own_d1_4) rfl ?_
  exact k
 have Qb1_1 : Safe Z consts_1 v0 h1 b1 := Safe.ext E1 H0 (Safe.new sz1)
 have H_1 : CHv Z consts_1 v0 h1 := CHv.ext E1 H0
 obtain ⟨_, _, ⟨T4, L4, c4, n4⟩, -, X4, ⟨Lc4, hQ4, l4, y4, z4⟩, st4⟩ := Jvm.LawKit.callS X1 hx (y := own_y36) ho0 (mvT hZ0 (own_w hw 6 rfl)) (mvT hZ0 (own_w hw 7 rfl)) (mvT hZ0 (own_w hw 8 rfl)) (mvT hZ0 (own_w hw 9 rfl)) (by decide) (backOf (W := 2) (own_rm2 l Z a0 hw sv ca cc h1 n0 Z1 O1 S_hi S_ca B_c) hZ0 (own_w hw 9 rfl) (own_w hw 8 rfl) (by decide) (by decide)) (g := (mkF m 5 #[vi sv] [(.int sv), (.ref b1), (.ref b1)])) rfl (by rw [hml]; rfl) (argsL := [(.int sv)]) (rest := [(.ref b1), (.ref b1)]) (lenOf own_pd24 rfl) rfl (by show 2 * 0 + _ ≤ _; exact Nat.le_of_eq rfl) (hb hby own_d1_5) (fun _ _ => ⟨rfl, e1, (by decide : 1 + 1 ≤ _), (by decide : 2 + 1 ≤ _)⟩)
 dsimp only [Pt.U, Pt.locs, Pt.cells, Pt.slots] at X4 l4 y4 z4 st4 hQ4
 subst l4 y4 z4
 obtain ⟨h4, e4⟩ : ∃ z, T4.heap = z := ⟨_, rfl⟩
 rw [e4] at hQ4
 obtain ⟨r4, rfl, N4q, Kc4, Ec4, Fc4, hr4⟩ := hQ4
 have N4 := Fr.app N0 N4q
 have ne_b1_r4 : b1 ≠ r4 := own_ne_or hr4 g_b1 A1.lt
 have K4 : Keep h0 h4 [] := K1.trans Kc4 all0
 have Z4 : n0 ≤ h4.size := Nat.le_trans Z1 Kc4.1
 have O4 := O1.keep Kc4 all0
 have hk4 := Nat.le_trans hk1 Kc4.1
 refine own_st (T' := T4) (g' := (mkF m 8 #[vi sv] [(.ref r4), (.ref b1), (.ref b1)])) st4 ?_
 have Qb1_4 := Safe.keep Kc4 (fun _ q => nomatch q) H_1 Qb1_1
 have H_4 : CHv Z consts_1 v0 h4 := CHv.keep Kc4 (fun _ q => nomatch q) H_1
 refine own_st (T' := T4) (g' := (mkF m 9 #[vi sv] [(.int sv), (.ref r4), (.ref b1), (.ref b1)])) (fun t k => ?_) ?_
 ·refine XS.iloadN X4.here hx rfl (hb hby own_d1_8) rfl ?_
  exact k
 obtain ⟨_, _, ⟨T5, L5, c5, n5⟩, -, X5, ⟨Lc5, hQ5, l5, y5, z5⟩, st5⟩ := Jvm.LawKit.callS X4 hx (y := own_y37) ho0 (mvT hZ0 (own_w hw 13 rfl)) (mvT hZ0 (own_w hw 14 rfl)) (mvT hZ0 (own_w hw 2 rfl)) (mvT hZ0 (own_w hw 15 rfl)) (by decide) (backOf (W := 3) (own_rm3 l Z a0 hw sv h4 n0 Z4 ) hZ0 (own_w hw 15 rfl) (own_w hw 2 rfl) (by decide) (by decide)) (g := (mkF m 9 #[vi sv] [(.int sv), (.ref r4), (.ref b1), (.ref b1)])) rfl (by rw [hml]; rfl) (argsL := [(.int sv)]) (rest := [(.ref r4), (.ref b1), (.ref b1)]) (lenOf own_pd23 rfl) rfl (by show 2 * 0 + _ ≤ _; exact Nat.le_of_eq rfl) (hb hby own_d1_9) (fun _ _ => ⟨rfl, e4, (by decide : 2 + 0 ≤ _), (by decide : 3 + 0 ≤ _)⟩)
 dsimp only [Pt.U, Pt.locs, Pt.cells, Pt.slots] at X5 l5 y5 z5 st5 hQ5
 subst l5 y5 z5
 obtain ⟨rfl, N5q, e5⟩ := hQ5
 have N5 := Fr.app N4 N5q
 refine own_st (T' := T5) (g' := (mkF m 12 #[vi sv] [(.int (own_ok sv)), (.ref r4), (.ref b1), (.ref b1)])) st5 ?_
 by_cases hok : (own_ok sv) = (0 : Int32)
 ·refine own_st (T' := T5) (g' := (mkF m 20 #[vi sv] [(.ref r4), (.ref b1), (.ref b1)])) (fun t k => ?_) ?_
  ·refine XS.ifYes X5.here hx rfl (pc0 := 12) (pc' := 20) rfl (hb hby own_d1_12) rfl ((if0 _ _).trans (teq hok).1) (by decide) (by decide) ?_
   exact k
  obtain ⟨T6, h6, X6, e6, E6, A6, D6, U6, st6⟩ := newO X5 hx hZ0 ho0 (own_w hw 16 rfl) (own_w hw 17 rfl) (own_w hw 18 rfl) e5 (g := (mkF m 20 #[vi sv] [(.ref r4), (.ref b1), (.ref b1)])) rfl (hb hby own_d1_20) (by decide) (by decide)
  obtain ⟨b6, g6⟩ : ∃ z, z = h4.size := ⟨_, rfl⟩
  rw [← g6] at A6 D6 U6 st6
  have sz6 : h4.size ≤ b6 := Nat.le_of_eq g6.symm
  have f7 := V_o.ext O4.2
  have ne_d1_b6 : d1 ≠ b6 := Nat.ne_of_lt (Nat.lt_of_lt_of_le f7.lt sz6)
  have f8 := V_t.ext O4.2
  have ne_d2_b6 : d2 ≠ b6 := Nat.ne_of_lt (Nat.lt_of_lt_of_le f8.lt sz6)
  have f9 := A1.keep Kc4
  have ne_b1_b6 : b1 ≠ b6 := Nat.ne_of_lt (Nat.lt_of_lt_of_le f9.lt sz6)
  have ne_r4_b6 : r4 ≠ b6 := Nat.ne_of_lt (Nat.lt_of_lt_of_le Ec4.lt sz6)
  have g_b6 : n0 ≤ b6 := Nat.le_trans Z4 sz6
  have hz_b6 : h0.size ≤ b6 := Nat.le_trans K4.1 sz6
  have K6 : Keep h0 h6 [] := K4.ext E6
  have Z6 : n0 ≤ h6.size := Nat.le_trans Z4 E6.1
  have O6 := O4.ext E6
  have hk6 := Nat.le_trans hk4 E6.1
  refine own_st (T' := T6) (g' := (mkF m 23 #[vi sv] [(.ref b6), (.ref r4), (.ref b1), (.ref b1)])) st6 ?_
  have Qb1_6 := Safe.ext E6 H_4 Qb1_4
  have Qb6_6 : Safe Z consts_1 v0 h6 b6 := Safe.ext E6 H_4 (Safe.new sz6)
  have H_6 : CHv Z consts_1 v0 h6 := CHv.ext E6 H_4
  refine own_st (T' := T6) (g' := (mkF m 24 #[vi sv] [(.ref b6), (.ref b6), (.ref r4), (.ref b1), (.ref b1)])) (fun t k => ?_) ?_
  ·refine XS.dup X6.here hx rfl (hb hby own_d1_23) rfl rfl ?_
   exact k
  obtain ⟨_, _, ⟨T10, L10, c10, n10⟩, -, X10, ⟨Lc10, hQ10, l10, y10, z10⟩, st10⟩ := X6.specialBack hx (y := own_y9) rfl ho0 (mvT hZ0 (own_w hw 19 rfl)) (mvT hZ0 (own_w hw 20 rfl)) (mvT hZ0 (own_w hw 21 rfl)) (by decide) (backOf (W := 4) (own_rm4 l Z a0 hw b6 cs h6 n0 Z6 O6 A6 (D6 (Or.inl (own_w hw 35 rfl)) (ty := (.array .byte)) (by decide) : Fld Z h6 b6 "java/lang/AbstractStringBuilder" "value" "[B" .null) (D6 (Or.inl (own_w hw 37 rfl)) (ty := .byte) (by decide) : Fld Z h6 b6 "java/lang/AbstractStringBuilder" "coder" "B" (.int 0)) (D6 (Or.inl (own_w hw 68 rfl)) (ty := .int) (by decide) : Fld Z h6 b6 "java/lang/AbstractStringBuilder" "count" "I" (.int 0)) g_b6 hcs S_cs) hZ0 (own_w hw 21 rfl) (own_w hw 18 rfl) (by decide) (by decide)) (g := (mkF m 24 #[vi sv] [(.ref b6), (.ref b6), (.ref r4), (.ref b1), (.ref b1)])) rfl (by rw [hml]; rfl) (Steps.refl _) (a := b6) (argsL := []) (rest := [(.ref b6), (.ref r4), (.ref b1), (.ref b1)]) (lenOf own_pd22 rfl) rfl (by show 2 * 0 + _ ≤ _; exact Nat.le_of_eq rfl) (hb hby own_d1_24) (fun _ _ => ⟨rfl, e6, (by decide : 3 + 1 ≤ _), (by decide : 7 + 16 ≤ _)⟩)
  dsimp only [Pt.U, Pt.locs, Pt.cells, Pt.slots] at X10 l10 y10 z10 st10 hQ10
  subst l10 y10 z10
  obtain ⟨h10, e10⟩ : ∃ z, T10.heap = z := ⟨_, rfl⟩
  rw [e10] at hQ10
  obtain ⟨r10, k10, rfl, N10q, Kc10, g10, hz10, Bv10, Bc10, Bn10, Vc10⟩ := hQ10
  have N10 := Fr.app N5 N10q
  have f11 := V_o.ext O6.2
  have ne_d1_r10 : d1 ≠ r10 := Nat.ne_of_lt (Nat.lt_of_lt_of_le f11.lt hz10)
  have f12 := V_t.ext O6.2
  have ne_d2_r10 : d2 ≠ r10 := Nat.ne_of_lt (Nat.lt_of_lt_of_le f12.lt hz10)
  have f13 := f9.ext E6
  have ne_b1_r10 : b1 ≠ r10 := Nat.ne_of_lt (Nat.lt_of_lt_of_le f13.lt hz10)
  have f14 := Ec4.ext E6
  have ne_r4_r10 : r4 ≠ r10 := Nat.ne_of_lt (Nat.lt_of_lt_of_le f14.lt hz10)
  have ne_b6_r10 : b6 ≠ r10 := Nat.ne_of_lt (Nat.lt_of_lt_of_le A6.lt hz10)
  have hwr10 : h0.size ≤ r10 := Nat.le_trans K6.1 hz10
  have K10 : Keep h0 h10 [] := K6.trans Kc10 (allS (Or.inr hz_b6) all0)
  have Z10 : n0 ≤ h10.size := Nat.le_trans Z6 Kc10.1
  have O10 := O6.keep Kc10 (allS g_b6 all0)
  have hk10 := Nat.le_trans hk6 Kc10.1
  refine own_tr (T' := T10) (g' := (mkF m 27 #[vi sv] [(.ref b6), (.ref r4), (.ref b1), (.ref b1)])) st10 ?_
  have Qb1_10 := Safe.keep Kc10 (fun x hx => (List.mem_singleton.mp hx) ▸ Qb6_6) H_6 Qb1_6
  have Qb6_10 := Safe.keep Kc10 (fun x hx => (List.mem_singleton.mp hx) ▸ Qb6_6) H_6 Qb6_6
  have Qr10_10 : Safe Z consts_1 v0 h10 r10 := Safe.keep Kc10 (fun x hx => (List.mem_singleton.mp hx) ▸ Qb6_6) H_6 (Safe.new hz10)
  have H_10 : CHv Z consts_1 v0 h10 := CHv.keep Kc10 (fun x hx => (List.mem_singleton.mp hx) ▸ Qb6_6) H_6
  obtain ⟨a15, T15, h15, j15, y15, k15, X15, e15, E15, hS15, hj15, hZ15, ho15, Ea15, Fc15, Fv15, Va15, la15, lb15, C15, -, Sf15, st15⟩ := ldcCH X10 hx hZ0 ho0 (own_w hw 38 rfl) hstr e10 hS0 hk10 hEL (List.mem_of_getElem? (i := 1) rfl) H_10 (vs := [(.int 116), (.int 104), (.int 101), (.int 32), (.int 114), (.int 101), (.int 99), (.int 101), (.int 105), (.int 118), (.int 101), (.int 114), (.int 32), (.int 97), (.int 110), (.int 115), (.int 119), (.int 101), (.int 114), (.int 101), (.int 100), (.int 32)]) (z := (22 : Int32)) own_ht32 (by decide) rfl (g := (mkF m 27 #[vi sv] [(.ref b6), (.ref r4), (.ref b1), (.ref b1)])) rfl (hb hby own_d1_27) (n := 88) (by decide) (by decide) (by decide) (by decide)
  have f16 := f13.keep Kc10
  have nl_b1_15 := Sf15 b1 (C15.safe f16.lt Qb1_10)
  have f17 := A6.keep Kc10
  have nl_b6_15 := Sf15 b6 (C15.safe f17.lt Qb6_10)
  have nl_r10_15 := Sf15 r10 (C15.safe Vc10.lt Qr10_10)
  clear Sf15 C15
  obtain ⟨v15, hv15⟩ : ∃ z, z = T15.vm := ⟨_, rfl⟩
  rw [← hv15] at X15 hS15 hZ15 ho15
  have K15 : Keep h0 h15 [] := K10.ext E15
  have Z15 : n0 ≤ h15.size := Nat.le_trans Z10 E15.1
  have O15 := O10.ext E15
  refine own_st (T' := T15) (g' := (mkF m 29 #[vi sv] [(.ref a15), (.ref b6), (.ref r4), (.ref b1), (.ref b1)])) st15 ?_
  have f18 := f17.ext E15
  have f19 := Bv10.ext E15
  have f20 := Bc10.ext E15
  have f21 := Bn10.ext E15
  have f22 := Vc10.ext E15
  obtain ⟨cq23, kq23, q23a, q23b, q23c⟩ := isOf hZ15 e15 f18
  obtain ⟨_, _, ⟨T23, L23, c23, n23⟩, -, X23, ⟨Lc23, hQ23, l23, y23, z23⟩, st23⟩ := X15.virtualBack hx (y := own_y17) (z := own_y17) ho15 (mvT hZ15 (own_w hw 44 rfl)) (mvT hZ15 (own_w hw 45 rfl)) (notFace_of_selects (args := #[]) (mvT hZ15 (own_w hw 47 rfl))) (mvT hZ15 (own_w hw 47 rfl)) (mvT hZ15 (own_w hw 46 rfl)) (by decide) (backOf (W := 3) (own_rm7 l Z a0 hw b6 r10 k10 a15 y15 k15 cs h15 n0 Z15 O15 f18 f19 f20 f21 f22 Ea15 Fc15 Fv15 Va15 g_b6 ne_b6_r10 (Ne.symm nl_b6_15.2) (Ne.symm nl_b6_15.1) (Ne.symm nl_r10_15.2) (Ne.symm nl_r10_15.1) hcs S_cs) hZ15 (own_w hw 48 rfl) (own_w hw 18 rfl) (by decide) (by decide)) q23a q23c (g := (mkF m 29 #[vi sv] [(.ref a15), (.ref b6), (.ref r4), (.ref b1), (.ref b1)])) rfl (by rw [hml]; rfl) (Steps.refl _) (argsL := [(.ref a15)]) (rest := [(.ref r4), (.ref b1), (.ref b1)]) (lenOf own_pd25 rfl) rfl (by show 2 * 0 + _ ≤ _; exact Nat.le_of_eq rfl) (hb hby own_d1_29) (fun _ _ => ⟨rfl, e15, (by decide : 6 + 1 ≤ _), (by decide : 115 + 34 ≤ _)⟩)
  dsimp only [Pt.U, Pt.locs, Pt.cells, Pt.slots] at X23 l23 y23 z23 st23 hQ23
  subst l23 y23 z23
  obtain ⟨h23, e23⟩ : ∃ z, T23.heap = z := ⟨_, rfl⟩
  rw [e23] at hQ23
  obtain ⟨r23, k23, rfl, N23q, Kc23, g23, hz23, Bv23, Bc23, Bn23, Vc23⟩ := hQ23
  have N23 := Fr.app N10 N23q
  have f24 := V_o.ext O15.2
  have ne_d1_r23 : d1 ≠ r23 := Nat.ne_of_lt (Nat.lt_of_lt_of_le f24.lt hz23)
  have f25 := V_t.ext O15.2
  have ne_d2_r23 : d2 ≠ r23 := Nat.ne_of_lt (Nat.lt_of_lt_of_le f25.lt hz23)
  have f26 := f16.ext E15
  have ne_b1_r23 : b1 ≠ r23 := Nat.ne_of_lt (Nat.lt_of_lt_of_le f26.lt hz23)
  have f27 := (f14.keep Kc10).ext E15
  have ne_r4_r23 : r4 ≠ r23 := Nat.ne_of_lt (Nat.lt_of_lt_of_le f27.lt hz23)
  have ne_b6_r23 : b6 ≠ r23 := Nat.ne_of_lt (Nat.lt_of_lt_of_le f18.lt hz23)
  have ne_r10_r23 : r10 ≠ r23 := Nat.ne_of_lt (Nat.lt_of_lt_of_le f22.lt hz23)
  have ne_a15_r23 : a15 ≠ r23 := Nat.ne_of_lt (Nat.lt_of_lt_of_le Ea15.lt hz23)
  have ne_y15_r23 : y15 ≠ r23 := Nat.ne_of_lt (Nat.lt_of_lt_of_le Va15.lt hz23)
  have hwr23 : h0.size ≤ r23 := Nat.le_trans K15.1 hz23
  have K23 : Keep h0 h23 [] := K15.trans Kc23 (allS (Or.inr hz_b6) all0)
  have Z23 : n0 ≤ h23.size := Nat.le_trans Z15 Kc23.1
  have O23 := O15.keep Kc23 (allS g_b6 all0)
  have hk23 := Nat.le_trans hj15 Kc23.1
  refine own_tr (T' := T23) (g' := (mkF m 32 #[vi sv] [(.ref b6), (.ref r4), (.ref b1), (.ref b1)])) st23 ?_
  refine own_st (T' := T23) (g' := (mkF m 33 #[vi sv] [(.int sv), (.ref b6), (.ref r4), (.ref b1), (.ref b1)])) (fun t k => ?_) ?_
  ·refine XS.iloadN X23.here hx rfl (hb hby own_d1_32) rfl ?_
   exact k
  have f28 := f18.keep Kc23
  obtain ⟨cq29, kq29, q29a, q29b, q29c⟩ := isOf hZ15 e23 f28
  obtain ⟨_, _, ⟨T29, L29, c29, n29⟩, -, X29, ⟨Lc29, hQ29, l29, y29, z29⟩, st29⟩ := X23.virtualBack hx (y := own_y23) (z := own_y23) ho15 (mvT hZ15 (own_w hw 117 rfl)) (mvT hZ15 (own_w hw 118 rfl)) (notFace_of_selects (args := #[]) (mvT hZ15 (own_w hw 120 rfl))) (mvT hZ15 (own_w hw 120 rfl)) (mvT hZ15 (own_w hw 119 rfl)) (by decide) (backOf (W := 3) (own_rm20 l Z a0 hw b6 r23 k23 sv d1 d2 kd1 kd2 cs h23 n0 Z23 O23 f28 Bv23 Bc23 Bn23 Vc23 g_b6 g23 ne_b6_r23 S_o S_t V_o V_t hcs S_cs) hZ15 (own_w hw 121 rfl) (own_w hw 18 rfl) (by decide) (by decide)) q29a q29c (g := (mkF m 33 #[vi sv] [(.int sv), (.ref b6), (.ref r4), (.ref b1), (.ref b1)])) rfl (by rw [hml]; rfl) (Steps.refl _) (argsL := [(.int sv)]) (rest := [(.ref r4), (.ref b1), (.ref b1)]) (lenOf own_pd26 rfl) rfl (by show 2 * 0 + _ ≤ _; exact Nat.le_of_eq rfl) (hb hby own_d1_33) (fun _ _ => ⟨rfl, e23, (by decide : 7 + 0 ≤ _), (by decide : 149 + 0 ≤ _)⟩)
  dsimp only [Pt.U, Pt.locs, Pt.cells, Pt.slots] at X29 l29 y29 z29 st29 hQ29
  subst l29 y29 z29
  obtain ⟨h29, e29⟩ : ∃ z, T29.heap = z := ⟨_, rfl⟩
  rw [e29] at hQ29
  obtain ⟨rfl, N29q, Kc29, Bv29, Bc29, Bn29, Vc29⟩ := hQ29
  have N29 := Fr.app N23 N29q
  have K29 : Keep h0 h29 [] := K23.trans Kc29 (allS (Or.inr hz_b6) (allS (Or.inr hwr23) all0))
  have Z29 : n0 ≤ h29.size := Nat.le_trans Z23 Kc29.1
  have O29 := O23.keep Kc29 (allS g_b6 (allS g23 all0))
  have hk29 := Nat.le_trans hk23 Kc29.1
  refine own_tr (T' := T29) (g' := (mkF m 36 #[vi sv] [(.ref b6), (.ref r4), (.ref b1), (.ref b1)])) st29 ?_
  have f30 := f28.keep Kc29
  obtain ⟨cq31, kq31, q31a, q31b, q31c⟩ := isOf hZ15 e29 f30
  obtain ⟨_, _, ⟨T31, L31, c31, n31⟩, -, X31, ⟨Lc31, hQ31, l31, y31, z31⟩, st31⟩ := X29.virtualBack hx (y := own_y29) (z := own_y29) ho15 (mvT hZ15 (own_w hw 138 rfl)) (mvT hZ15 (own_w hw 139 rfl)) (notFace_of_selects (args := #[]) (mvT hZ15 (own_w hw 141 rfl))) (mvT hZ15 (own_w hw 141 rfl)) (mvT hZ15 (own_w hw 140 rfl)) (by decide) (backOf (W := 3) (own_rm25 l Z a0 hw b6 r23 k23 (own_fin sv (own_tl sv) own_lit34) (own_L sv) (own_tl sv) cs h29 n0 Z29 O29 f30 Bv29 Bc29 Bn29 Vc29 (own_fin_len sv) (own_L_i sv) (own_tl_r sv).2 hcs S_cs) hZ15 (own_w hw 142 rfl) (own_w hw 18 rfl) (by decide) (by decide)) q31a q31c (g := (mkF m 36 #[vi sv] [(.ref b6), (.ref r4), (.ref b1), (.ref b1)])) rfl (by rw [hml]; rfl) (Steps.refl _) (argsL := []) (rest := [(.ref r4), (.ref b1), (.ref b1)]) (lenOf own_pd27 rfl) rfl (by show 2 * 0 + _ ≤ _; exact Nat.le_of_eq rfl) (hb hby own_d1_36) (fun _ _ => ⟨rfl, e29, (by decide : 7 + 2 ≤ _), (by decide : 149 + 37 ≤ _)⟩)
  dsimp only [Pt.U, Pt.locs, Pt.cells, Pt.slots] at X31 l31 y31 z31 st31 hQ31
  subst l31 y31 z31
  obtain ⟨h31, e31⟩ : ∃ z, T31.heap = z := ⟨_, rfl⟩
  rw [e31] at hQ31
  obtain ⟨x31, t31, k31, rfl, N31q, Kc31, gx31, hx31, g31, hz31, Ec31, Fv31, Fo31, Vc31⟩ := hQ31
  have N31 := Fr.app N29 N31q
  have f32 := V_o.ext O29.2
  have ne_d1_x31 : d1 ≠ x31 := Nat.ne_of_lt (Nat.lt_of_lt_of_le f32.lt hx31)
  have f33 := V_t.ext O29.2
  have ne_d2_x31 : d2 ≠ x31 := Nat.ne_of_lt (Nat.lt_of_lt_of_le f33.lt hx31)
  have f34 := (f26.keep Kc23).keep Kc29
  have ne_b1_x31 : b1 ≠ x31 := Nat.ne_of_lt (Nat.lt_of_lt_of_le f34.lt hx31)
  have f35 := (f27.keep Kc23).keep Kc29
  have ne_r4_x31 : r4 ≠ x31 := Nat.ne_of_lt (Nat.lt_of_lt_of_le f35.lt hx31)
  have ne_b6_x31 : b6 ≠ x31 := Nat.ne_of_lt (Nat.lt_of_lt_of_le f30.lt hx31)
  have f36 := (f22.keep Kc23 (ninS (Ne.symm ne_b6_r10) nin0)).keep Kc29 (ninS (Ne.symm ne_b6_r10) (ninS ne_r10_r23 nin0))
  have ne_r10_x31 : r10 ≠ x31 := Nat.ne_of_lt (Nat.lt_of_lt_of_le f36.lt hx31)
  have f37 := (Ea15.keep Kc23).keep Kc29
  have ne_a15_x31 : a15 ≠ x31 := Nat.ne_of_lt (Nat.lt_of_lt_of_le f37.lt hx31)
  have f38 := (Va15.keep Kc23 (ninS (Ne.symm nl_b6_15.2) nin0)).keep Kc29 (ninS (Ne.symm nl_b6_15.2) (ninS ne_y15_r23 nin0))
  have ne_y15_x31 : y15 ≠ x31 := Nat.ne_of_lt (Nat.lt_of_lt_of_le f38.lt hx31)
  have ne_r23_x31 : r23 ≠ x31 := Nat.ne_of_lt (Nat.lt_of_lt_of_le Vc29.lt hx31)
  have ne_d1_t31 : d1 ≠ t31 := Nat.ne_of_lt (Nat.lt_of_lt_of_le f32.lt hz31)
  have ne_d2_t31 : d2 ≠ t31 := Nat.ne_of_lt (Nat.lt_of_lt_of_le f33.lt hz31)
  have ne_b1_t31 : b1 ≠ t31 := Nat.ne_of_lt (Nat.lt_of_lt_of_le f34.lt hz31)
  have ne_r4_t31 : r4 ≠ t31 := Nat.ne_of_lt (Nat.lt_of_lt_of_le f35.lt hz31)
  have ne_b6_t31 : b6 ≠ t31 := Nat.ne_of_lt (Nat.lt_of_lt_of_le f30.lt hz31)
  have ne_r10_t31 : r10 ≠ t31 := Nat.ne_of_lt (Nat.lt_of_lt_of_le f36.lt hz31)
  have ne_a15_t31 : a15 ≠ t31 := Nat.ne_of_lt (Nat.lt_of_lt_of_le f37.lt hz31)
  have ne_y15_t31 : y15 ≠ t31 := Nat.ne_of_lt (Nat.lt_of_lt_of_le f38.lt hz31)
  have ne_r23_t31 : r23 ≠ t31 := Nat.ne_of_lt (Nat.lt_of_lt_of_le Vc29.lt hz31)
  have hwx31 : h0.size ≤ x31 := Nat.le_trans K29.1 hx31
  have hwt31 : h0.size ≤ t31 := Nat.le_trans K29.1 hz31
  have K31 : Keep h0 h31 [] := K29.trans Kc31 all0
  have Z31 : n0 ≤ h31.size := Nat.le_trans Z29 Kc31.1
  have O31 := O29.keep Kc31 all0
  have hk31 := Nat.le_trans hk29 Kc31.1
  refine own_tr (T' := T31) (g' := (mkF m 39 #[vi sv] [(.ref x31), (.ref r4), (.ref b1), (.ref b1)])) st31 ?_
  have f39 := f34.keep Kc31
  have f40 := (((((((D1 (Or.inr (own_w hw 180 rfl)) (ty := (.object "java/lang/Integer")) (by decide) : Fld Z h1 b1 "com/example/durable_cron/durablecron/store/RequestOutcome" "statusCode" "Ljava/lang/Integer;" .null).keep Kc4 nin0).ext E6).keep Kc10 (ninS ne_b1_b6 nin0)).ext E15).keep Kc23 (ninS ne_b1_b6 nin0)).keep Kc29 (ninS ne_b1_b6 (ninS ne_b1_r23 nin0))).keep Kc31 nin0
  have f41 := (((((((D1 (Or.inr (own_w hw 182 rfl)) (ty := (.object "java/lang/String")) (by decide) : Fld Z h1 b1 "com/example/durable_cron/durablecron/store/RequestOutcome" "failure" "Ljava/lang/String;" .null).keep Kc4 nin0).ext E6).keep Kc10 (ninS ne_b1_b6 nin0)).ext E15).keep Kc23 (ninS ne_b1_b6 nin0)).keep Kc29 (ninS ne_b1_b6 (ninS ne_b1_r23 nin0))).keep Kc31 nin0
  obtain ⟨_, _, ⟨T42, L42, c42, n42⟩, -, X42, ⟨Lc42, hQ42, l42, y42, z42⟩, st42⟩ := X31.specialBack hx (y := own_y40) rfl ho15 (mvT hZ15 (own_w hw 175 rfl)) (mvT hZ15 (own_w hw 176 rfl)) (mvT hZ15 (own_w hw 177 rfl)) (by decide) (backOf (W := 1) (own_rm34 l Z a0 hw b1 (.ref r4) (.ref x31) h31 n0 Z31 rfl rfl f39 f40 f41 g_b1) hZ15 (own_w hw 177 rfl) (own_w hw 2 rfl) (by decide) (by decide)) (g := (mkF m 39 #[vi sv] [(.ref x31), (.ref r4), (.ref b1), (.ref b1)])) rfl (by rw [hml]; rfl) (Steps.refl _) (a := b1) (argsL := [(.ref r4), (.ref x31)]) (rest := [(.ref b1)]) (lenOf own_pd28 rfl) rfl (by show 2 * 0 + _ ≤ _; exact Nat.le_of_eq rfl) (hb hby own_d1_39) (fun _ _ => ⟨rfl, e31, (by decide : 9 + 0 ≤ _), (by decide : 186 + 0 ≤ _)⟩)
  dsimp only [Pt.U, Pt.locs, Pt.cells, Pt.slots] at X42 l42 y42 z42 st42 hQ42
  subst l42 y42 z42
  obtain ⟨h42, e42⟩ : ∃ z, T42.heap = z := ⟨_, rfl⟩
  rw [e42] at hQ42
  obtain ⟨rfl, N42q, Kc42, Fc42_0, Fc42_1⟩ := hQ42
  have N42 := Fr.app N31 N42q
  have K42 : Keep h0 h42 [] := K31.trans Kc42 (allS (Or.inr hz_b1) all0)
  have Z42 : n0 ≤ h42.size := Nat.le_trans Z31 Kc42.1
  have O42 := O31.keep Kc42 (allS g_b1 all0)
  have hk42 := Nat.le_trans hk31 Kc42.1
  refine own_tr (T' := T42) (g' := (mkF m 42 #[vi sv] [(.ref b1)])) st42 ?_
  have f43 := f39.keep Kc42
  have f44 := (f35.keep Kc31).keep Kc42
  have f45 := ((((((Fc4.ext E6).keep Kc10 (ninS ne_r4_b6 nin0)).ext E15).keep Kc23 (ninS ne_r4_b6 nin0)).keep Kc29 (ninS ne_r4_b6 (ninS ne_r4_r23 nin0))).keep Kc31 nin0).keep Kc42 (ninS (Ne.symm ne_b1_r4) nin0)
  have f46 := Ec31.keep Kc42
  have f47 := Fo31.keep Kc42 (ninS (Ne.symm ne_b1_x31) nin0)
  have f48 := Fv31.keep Kc42 (ninS (Ne.symm ne_b1_x31) nin0)
  have f49 := Vc31.keep Kc42 (ninS (Ne.symm ne_b1_t31) nin0)
  exact own_retAW X42 hx Bd rfl rfl (hb hby own_d1_42) e42 (⟨b1, r4, x31, t31, k31, rfl, N42, K42, f43, Fc42_0, Fc42_1, f44, f45, f46, f47, f48, (by rw [own_res, if_pos hok, own_txt_len]; exact f49)⟩) hS15 hk42 (by decide) (by decide)
 ·refine own_st (T' := T5) (g' := (mkF m 15 #[vi sv] [(.ref r4), (.ref b1), (.ref b1)])) (fun t k => ?_) ?_
  ·refine XS.ifNo X5.here hx rfl (hb hby own_d1_12) rfl ((if0 _ _).trans (feq hok).1) ?_
   exact k
  obtain ⟨a50, T50, h50, j50, y50, k50, X50, e50, E50, hS50, hj50, hZ50, ho50, Ea50, Fc50, Fv50, Va50, la50, lb50, C50, -, Sf50, st50⟩ := ldcCH X5 hx hZ0 ho0 (own_w hw 267 rfl) hstr e5 hS0 hk4 hEL (List.mem_of_getElem? (i := 0) rfl) H_4 (vs := []) (z := (0 : Int32)) own_ht27 (by decide) rfl (g := (mkF m 15 #[vi sv] [(.ref r4), (.ref b1), (.ref b1)])) rfl (hb hby own_d1_15) (n := 0) (by decide) (by decide) (by decide) (by decide)
  have f51 := A1.keep Kc4
  have nl_b1_50 := Sf50 b1 (C50.safe f51.lt Qb1_4)
  clear Sf50 C50
  obtain ⟨v50, hv50⟩ : ∃ z, z = T50.vm := ⟨_, rfl⟩
  rw [← hv50] at X50 hS50 hZ50 ho50
  have K50 : Keep h0 h50 [] := K4.ext E50
  have Z50 : n0 ≤ h50.size := Nat.le_trans Z4 E50.1
  have O50 := O4.ext E50
  refine own_st (T' := T50) (g' := (mkF m 17 #[vi sv] [(.ref a50), (.ref r4), (.ref b1), (.ref b1)])) st50 ?_
  refine own_st (T' := T50) (g' := (mkF m 39 #[vi sv] [(.ref a50), (.ref r4), (.ref b1), (.ref b1)])) (fun t k => ?_) ?_
  ·refine XS.goto X50.here hx rfl (pc0 := 17) (pc' := 39) rfl (hb hby own_d1_17) (by decide) (by decide) ?_
   exact k
  have f52 := f51.ext E50
  have f53 := ((D1 (Or.inr (own_w hw 180 rfl)) (ty := (.object "java/lang/Integer")) (by decide) : Fld Z h1 b1 "com/example/durable_cron/durablecron/store/RequestOutcome" "statusCode" "Ljava/lang/Integer;" .null).keep Kc4 nin0).ext E50
  have f54 := ((D1 (Or.inr (own_w hw 182 rfl)) (ty := (.object "java/lang/String")) (by decide) : Fld Z h1 b1 "com/example/durable_cron/durablecron/store/RequestOutcome" "failure" "Ljava/lang/String;" .null).keep Kc4 nin0).ext E50
  obtain ⟨_, _, ⟨T55, L55, c55, n55⟩, -, X55, ⟨Lc55, hQ55, l55, y55, z55⟩, st55⟩ := X50.specialBack hx (y := own_y40) rfl ho50 (mvT hZ50 (own_w hw 175 rfl)) (mvT hZ50 (own_w hw 176 rfl)) (mvT hZ50 (own_w hw 177 rfl)) (by decide) (backOf (W := 1) (own_rm34 l Z a0 hw b1 (.ref r4) (.ref a50) h50 n0 Z50 rfl rfl f52 f53 f54 g_b1) hZ50 (own_w hw 177 rfl) (own_w hw 2 rfl) (by decide) (by decide)) (g := (mkF m 39 #[vi sv] [(.ref a50), (.ref r4), (.ref b1), (.ref b1)])) rfl (by rw [hml]; rfl) (Steps.refl _) (a := b1) (argsL := [(.ref r4), (.ref a50)]) (rest := [(.ref b1)]) (lenOf own_pd28 rfl) rfl (by show 2 * 0 + _ ≤ _; exact Nat.le_of_eq rfl) (hb hby own_d1_39) (fun _ _ => ⟨rfl, e50, (by decide : 4 + 0 ≤ _), (by decide : 7 + 0 ≤ _)⟩)
  dsimp only [Pt.U, Pt.locs, Pt.cells, Pt.slots] at X55 l55 y55 z55 st55 hQ55
  subst l55 y55 z55
  obtain ⟨h55, e55⟩ : ∃ z, T55.heap = z := ⟨_, rfl⟩
  rw [e55] at hQ55
  obtain ⟨rfl, N55q, Kc55, Fc55_0, Fc55_1⟩ := hQ55
  have N55 := Fr.app N5 N55q
  have K55 : Keep h0 h55 [] := K50.trans Kc55 (allS (Or.inr hz_b1) all0)
  have Z55 : n0 ≤ h55.size := Nat.le_trans Z50 Kc55.1
  have O55 := O50.keep Kc55 (allS g_b1 all0)
  have hk55 := Nat.le_trans hj50 Kc55.1
  refine own_tr (T' := T55) (g' := (mkF m 42 #[vi sv] [(.ref b1)])) st55 ?_
  have f56 := f52.keep Kc55
  have f57 := (Ec4.ext E50).keep Kc55
  have f58 := (Fc4.ext E50).keep Kc55 (ninS (Ne.symm ne_b1_r4) nin0)
  have f59 := Ea50.keep Kc55
  have f60 := Fc50.keep Kc55 (ninS (Ne.symm nl_b1_50.1) nin0)
  have f61 := Fv50.keep Kc55 (ninS (Ne.symm nl_b1_50.1) nin0)
  have f62 := Va50.keep Kc55 (ninS (Ne.symm nl_b1_50.2) nin0)
  exact own_retAW X55 hx Bd rfl rfl (hb hby own_d1_42) e55 (⟨b1, r4, a50, y50, k50, rfl, N55, K55, f56, Fc55_0, Fc55_1, f57, f58, f59, f60, f61, (by rw [own_res, if_neg hok]; exact f62)⟩) hS50 hk55 (by decide) (by decide)
theorem own_ef0 (m : MethodId) (x0 : Int32) : entryFrame m #[(.int x0)] maxLocals = mkF m 0 #[vi x0, .unset, .unset, .unset, .unset] [] := by first | (simp [entryFrame, mkF, argsToLocals, Value.category, maxLocals]; done) | rfl
def own_Q0 (Z : State) (sv : Int32) (ca : Addr) (cc : Cell) (d1 d2 : Addr) (kd1 kd2 : ClassId) (cs : Int32) (h0 : Heap) (n0 : Nat) : Option Value → Heap → List Loc → Prop := fun v h L => v = some (.int 1) ∧ Fr n0 L
theorem own_rm0 (l : Launch) (Z : State) (a0 : Array Value) (hw : own_W a0 Z) (ws : List Jvm.Cond) (sv : Int32) (ca : Addr) (cc : Cell) (d1 d2 : Addr) (kd1 kd2 : ClassId) (cs : Int32) (h0 : Heap) (n0 : Nat) (Z0 : n0 ≤ h0.size) (O0 : Old Z n0 h0) (S_hi : Sta Z Z.heap "java/lang/Integer$IntegerCache" "high" "I" (.int 127)) (S_ca : Sta Z Z.heap "java/lang/Integer$IntegerCache" "cache" "[Ljava/lang/Integer;" (.ref ca)) (B_c : Bxs Z ca cc "java/lang/Integer" "I" (256 : Int32) (fun j => .int (j - 128))) (S_o : Sta Z Z.heap "java/lang/Integer" "DigitOnes" "[B" (.ref d1)) (S_t : Sta Z Z.heap "java/lang/Integer" "DigitTens" "[B" (.ref d2)) (V_o : Arv Z Z.heap d1 kd1 .byte (100 : Int32) (own_tab1.map Value.int) (.int 0)) (V_t : Arv Z Z.heap d2 kd2 .byte (100 : Int32) (own_tab2.map Value.int) (.int 0)) (hcs : ¬ cs = (0 : Int32)) (S_cs : Sta Z Z.heap "java/lang/String" "COMPACT_STRINGS" "Z" (.int cs)) :
  MetFree l x (head1 (Jvm.Cond.code x code maxLocals ret :: ws) room_1) (fun a_ U_ => a_ = #[(.int sv)] ∧ Z.Warmed39 U_.vm ∧ U_.heap = h0 ∧ CHv Z consts_1 U_.vm h0) (fun _ _ _ _ _ => True) (fun _ U_ o_ U'_ => ∃ v_ L_, o_ = .returned v_ ∧ own_Q0 Z sv ca cc d1 d2 kd1 kd2 cs h0 n0 v_ U'_.heap L_ ∧ ReturnedEndW U_ o_ U'_ L_ room_1.cells room_1.slots) := by
 refine MetFree.of_bodySF (plainFor_of_name own_pn1) hisR ?_
 intro p e s m args below meth c s₁ Bd hml0 hP hK
 obtain ⟨rfl, hZ, hh, H0⟩ := hP
 have hx := Bd.exec
 have hby := Bd.bytes
 have hml : c.maxLocals = 5 := hml0
 have hown : s.vm.findClass "com/example/durable_cron/durablecron/store/RequestOutcomeAnsweredPinLaw" = some m.cls := findClass_of_methodNamed Bd.named
 have hnm := (name_of_methodNamed Bd.named Bd.method).1
 have X0 : Stand p l e room_1 s m #[(.int sv)] below meth c s₁ [] 0 0 := Stand.of_body Bd
 obtain ⟨v0, X0, hS0, hZ0, ho0, H0⟩ : ∃ v0, Stand p l e room_1 (s.setVm v0) m #[(.int sv)] below meth c s₁ [] 0 0 ∧ s.Since v0 h0.size ∧ Z.Warmed39 (s.setVm v0).vm ∧ (s.setVm v0).vm.findClass "com/example/durable_cron/durablecron/store/RequestOutcomeAnsweredPinLaw" = some m.cls ∧ CHv Z consts_1 v0 h0 := ⟨s.vm, X0, (State.WarmedH.refl s).since _, hZ, hown, H0⟩
 have hstr : ∀ d ∈ Bundle.stringAtoms, d.before a0 Z = true := fun d hd => hw d (own_sa d hd)
 have e0 : s₁.heap = h0 := by rw [← hh, Bd.state]; rfl
 have N0 := Fr.nil n0
 refine own_in (own_ef0 m sv) ?_
 show own_Go p e below (own_KW s (own_Q0 Z sv ca cc d1 d2 kd1 kd2 cs h0 n0) room_1.cells room_1.slots) s₁ (mkF m 0 #[vi sv, .unset, .unset, .unset, .unset] [])
 have hEL : EW Z a0 consts_1 := EW.cons (text := "") (own_w hw 267 rfl) (by decide) (EW.cons (text := "the receiver answered ") (own_w hw 38 rfl) own_ht32.1 EW.nil)
 have hwe : ∀ d ∈ StrChars.Road.wordsEq, d.before a0 Z = true := fun d hd => hw d (own_wordsE d hd)
 have hwp : ∀ d ∈ StrChars.Road.wordsEmp, d.before a0 Z = true := fun d hd => hw d (own_wordsP d hd)
 refine own_st (T' := s₁) (g' := (mkF m 1 #[vi sv, .unset, .unset, .unset, .unset] [(.int sv)])) (fun t k => ?_) ?_
 ·refine XS.iloadN X0.here hx rfl (hb hby at_0) rfl ?_
  exact k
 obtain ⟨_, _, ⟨T1, L1, c1, n1⟩, -, Y1, hI1, hG1, ⟨Lc1, hQ1, l1, y1, z1⟩, st1⟩ := callSS X0 hx (y := own_y42) ho0 (mvT hZ0 (own_w hw 0 rfl)) (mvT hZ0 (own_w hw 1 rfl)) (mvT hZ0 (own_w hw 2 rfl)) (mvT hZ0 (own_w hw 3 rfl)) (by decide) (own_backH (W := 0) (own_rm1 l Z a0 hw sv ca cc d1 d2 kd1 kd2 cs h0 n0 Z0 O0 S_hi S_ca B_c S_o S_t V_o V_t hcs S_cs) hZ0 (own_w hw 3 rfl) (own_w hw 2 rfl) (by decide) (by decide) hEL H0) (g := (mkF m 1 #[vi sv, .unset, .unset, .unset, .unset] [(.int sv)])) rfl (by rw [hml]; rfl) (argsL := [(.int sv)]) (rest := []) (lenOf own_pd29 rfl) rfl (by show 2 * 0 + _ ≤ _; exact Nat.le_of_eq rfl) (hb hby at_1) (fun _ _ => ⟨rfl, e0, (by decide : 0 + 9 ≤ _), (by decide : 0 + 186 ≤ _)⟩)
 dsimp only [Pt.U, Pt.locs, Pt.cells, Pt.slots] at Y1 hI1 hG1 l1 y1 z1 st1 hQ1
 subst l1 y1 z1
 obtain ⟨X1, hS1, hZ1, ho1⟩ := rebS hS0 (by rw [e0]; exact (Nat.le_refl _)) Y1 hI1 hG1 hZ0 ho0
 obtain ⟨v1, hv1⟩ : ∃ z, z = T1.vm := ⟨_, rfl⟩
 rw [← hv1] at X1 hS1 hZ1 ho1
 obtain ⟨h1, e1⟩ : ∃ z, T1.heap = z := ⟨_, rfl⟩
 rw [e1] at hQ1
 obtain ⟨ro1, ib1, sf1, t1, k1, rfl, N1q, Kc1, Er1, Fs1, Ff1, Ei1, Fi1, Es1, Fc1, Fv1, Vt1⟩ := hQ1
 have N1 := Fr.app N0 N1q
 have K1 : Keep h0 h1 [] := (Keep.refl h0 []).trans Kc1 all0
 have Z1 : n0 ≤ h1.size := Nat.le_trans Z0 Kc1.1
 have O1 := O0.keep Kc1 all0
 have hk1 : T1.heap.size ≤ h1.size := Nat.le_of_eq (by rw [e1])
 refine own_tr (T' := T1) (g' := (mkF m 4 #[vi sv, .unset, .unset, .unset, .unset] [(.ref ro1)])) st1 ?_
 refine own_st (T' := T1) (g' := (mkF m 6 #[vi sv, vr ro1, .unset, .unset, .unset] [(.ref ro1)])) (fun t k => ?_) ?_
 ·refine XS.astoreN X1.here hx rfl (hb hby at_4) rfl rfl (l' := #[vi sv, vr ro1, .unset, .unset, .unset]) rfl ?_
  refine XS.aloadN X1.here hx rfl (hb hby at_5) rfl rfl ?_
  exact k
 obtain ⟨cq2, kq2, q2a, q2b, q2c⟩ := isOf hZ1 e1 Er1
 obtain ⟨_, _, ⟨T2, L2, c2, n2⟩, -, X2, ⟨Lc2, hQ2, l2, y2, z2⟩, st2⟩ := X1.virtualBack hx (y := own_y38) (z := own_y38) ho1 (mvT hZ1 (own_w hw 183 rfl)) (mvT hZ1 (own_w hw 184 rfl)) (notFace_of_selects (args := #[]) (mvT hZ1 (own_w hw 186 rfl))) (mvT hZ1 (own_w hw 186 rfl)) (mvT hZ1 (own_w hw 185 rfl)) (by decide) (backOf (W := 0) (own_rm35 l Z a0 hw ro1 (.ref ib1) h1 n0 Z1 rfl Fs1) hZ1 (own_w hw 187 rfl) (own_w hw 2 rfl) (by decide) (by decide)) q2a q2c (g := (mkF m 6 #[vi sv, vr ro1, .unset, .unset, .unset] [(.ref ro1)])) rfl (by rw [hml]; rfl) (Steps.refl _) (argsL := []) (rest := []) (lenOf own_pd30 rfl) rfl (by show 2 * 0 + _ ≤ _; exact Nat.le_of_eq rfl) (hb hby at_6) (fun _ _ => ⟨rfl, e1, (by decide : 9 + 0 ≤ _), (by decide : 186 + 0 ≤ _)⟩)
 dsimp only [Pt.U, Pt.locs, Pt.cells, Pt.slots] at X2 l2 y2 z2 st2 hQ2
 subst l2 y2 z2
 obtain ⟨rfl, N2q, e2⟩ := hQ2
 have N2 := Fr.app N1 N2q
 refine own_tr (T' := T2) (g' := (mkF m 9 #[vi sv, vr ro1, .unset, .unset, .unset] [(.ref ib1)])) st2 ?_
 refine own_st (T' := T2) (g' := (mkF m 15 #[vi sv, vr ro1, vr ib1, .unset, .unset] [(.ref ib1)])) (fun t k => ?_) ?_
 ·refine XS.astoreN X2.here hx rfl (hb hby at_9) rfl rfl (l' := #[vi sv, vr ro1, vr ib1, .unset, .unset]) rfl ?_
  refine XS.aloadN X2.here hx rfl (hb hby at_10) rfl rfl ?_
  refine XS.ifnullNo X2.here hx rfl (hb hby at_11) rfl ?_
  refine XS.aloadN X2.here hx rfl (hb hby at_14) rfl rfl ?_
  exact k
 obtain ⟨cq3, kq3, q3a, q3b, q3c⟩ := isOf hZ1 e2 Ei1
 obtain ⟨_, _, ⟨T3, L3, c3, n3⟩, -, X3, ⟨Lc3, hQ3, l3, y3, z3⟩, st3⟩ := X2.virtualBack hx (y := own_y35) (z := own_y35) ho1 (mvT hZ1 (own_w hw 188 rfl)) (mvT hZ1 (own_w hw 189 rfl)) (notFace_of_selects (args := #[]) (mvT hZ1 (own_w hw 191 rfl))) (mvT hZ1 (own_w hw 191 rfl)) (mvT hZ1 (own_w hw 190 rfl)) (by decide) (backOf (W := 0) (own_rm36 l Z a0 hw ib1 sv h1 n0 Z1 Fi1) hZ1 (own_w hw 192 rfl) (own_w hw 8 rfl) (by decide) (by decide)) q3a q3c (g := (mkF m 15 #[vi sv, vr ro1, vr ib1, .unset, .unset] [(.ref ib1)])) rfl (by rw [hml]; rfl) (Steps.refl _) (argsL := []) (rest := []) (lenOf own_pd8 rfl) rfl (by show 2 * 0 + _ ≤ _; exact Nat.le_of_eq rfl) (hb hby at_15) (fun _ _ => ⟨rfl, e2, (by decide : 9 + 0 ≤ _), (by decide : 186 + 0 ≤ _)⟩)
 dsimp only [Pt.U, Pt.locs, Pt.cells, Pt.slots] at X3 l3 y3 z3 st3 hQ3
 subst l3 y3 z3
 obtain ⟨rfl, N3q, e3⟩ := hQ3
 have N3 := Fr.app N2 N3q
 refine own_tr (T' := T3) (g' := (mkF m 18 #[vi sv, vr ro1, vr ib1, .unset, .unset] [(.int sv)])) st3 ?_
 refine own_st (T' := T3) (g' := (mkF m 28 #[vi sv, vr ro1, vr ib1, .unset, .unset] [(.int 200), (.int sv)])) (fun t k => ?_) ?_
 ·refine XS.iloadN X3.here hx rfl (hb hby at_18) rfl ?_
  refine XS.icmpYes X3.here hx rfl (pc0 := 19) (pc' := 24) rfl (hb hby at_19) rfl (teq (rfl : sv = sv)).1 (by decide) (by decide) ?_
  refine XS.iloadN X3.here hx rfl (hb hby at_24) rfl ?_
  refine XS.sipush X3.here hx rfl (hb hby at_25) ?_
  exact k
 by_cases h2 : sv < (200 : Int32)
 ·refine own_st (T' := T3) (g' := (mkF m 45 #[vi sv, vr ro1, vr ib1, vi 0, .unset] [(.ref ro1)])) (fun t k => ?_) ?_
  ·refine XS.icmpYes X3.here hx rfl (pc0 := 28) (pc' := 42) rfl (hb hby at_28) rfl (tlt h2).1 (by decide) (by decide) ?_
   refine XS.iconst X3.here hx rfl (hb hby at_42) ?_
   refine XS.istoreN X3.here hx rfl (hb hby at_43) rfl (l' := #[vi sv, vr ro1, vr ib1, vi 0, .unset]) rfl ?_
   refine XS.aloadN X3.here hx rfl (hb hby at_44) rfl rfl ?_
   exact k
  obtain ⟨cq4, kq4, q4a, q4b, q4c⟩ := isOf hZ1 e3 Er1
  obtain ⟨_, _, ⟨T4, L4, c4, n4⟩, -, X4, ⟨Lc4, hQ4, l4, y4, z4⟩, st4⟩ := X3.virtualBack hx (y := own_y41) (z := own_y41) ho1 (mvT hZ1 (own_w hw 195 rfl)) (mvT hZ1 (own_w hw 196 rfl)) (notFace_of_selects (args := #[]) (mvT hZ1 (own_w hw 198 rfl))) (mvT hZ1 (own_w hw 198 rfl)) (mvT hZ1 (own_w hw 197 rfl)) (by decide) (backOf (W := 0) (own_rm37 l Z a0 hw ro1 ib1 sv h1 n0 Z1 Fs1 Ei1 Fi1) hZ1 (own_w hw 199 rfl) (own_w hw 2 rfl) (by decide) (by decide)) q4a q4c (g := (mkF m 45 #[vi sv, vr ro1, vr ib1, vi 0, .unset] [(.ref ro1)])) rfl (by rw [hml]; rfl) (Steps.refl _) (argsL := []) (rest := []) (lenOf own_pd11 rfl) rfl (by show 2 * 0 + _ ≤ _; exact Nat.le_of_eq rfl) (hb hby at_45) (fun _ _ => ⟨rfl, e3, (by decide : 9 + 0 ≤ _), (by decide : 186 + 0 ≤ _)⟩)
  dsimp only [Pt.U, Pt.locs, Pt.cells, Pt.slots] at X4 l4 y4 z4 st4 hQ4
  subst l4 y4 z4
  obtain ⟨rfl, N4q, e4⟩ := hQ4
  have N4 := Fr.app N3 N4q
  refine own_tr (T' := T4) (g' := (mkF m 48 #[vi sv, vr ro1, vr ib1, vi 0, .unset] [(.int (own_ok sv))])) st4 ?_
  have hokv : own_ok sv = 0 := own_okl h2
  have hres := own_res0 hokv
  rw [show (own_ok sv) = (0 : Int32) from hokv]
  refine own_st (T' := T4) (g' := (mkF m 55 #[vi sv, vr ro1, vr ib1, vi 0, .unset] [(.ref ro1)])) (fun t k => ?_) ?_
  ·refine XS.iloadN X4.here hx rfl (hb hby at_48) rfl ?_
   refine XS.icmpYes X4.here hx rfl (pc0 := 49) (pc' := 54) rfl (hb hby at_49) rfl (teq (rfl : (0 : Int32) = (0 : Int32))).1 (by decide) (by decide) ?_
   refine XS.aloadN X4.here hx rfl (hb hby at_54) rfl rfl ?_
   exact k
  obtain ⟨cq5, kq5, q5a, q5b, q5c⟩ := isOf hZ1 e4 Er1
  obtain ⟨_, _, ⟨T5, L5, c5, n5⟩, -, X5, ⟨Lc5, hQ5, l5, y5, z5⟩, st5⟩ := X4.virtualBack hx (y := own_y39) (z := own_y39) ho1 (mvT hZ1 (own_w hw 201 rfl)) (mvT hZ1 (own_w hw 202 rfl)) (notFace_of_selects (args := #[]) (mvT hZ1 (own_w hw 204 rfl))) (mvT hZ1 (own_w hw 204 rfl)) (mvT hZ1 (own_w hw 203 rfl)) (by decide) (backOf (W := 0) (own_rm38 l Z a0 hw ro1 (.ref sf1) h1 n0 Z1 rfl Ff1) hZ1 (own_w hw 205 rfl) (own_w hw 2 rfl) (by decide) (by decide)) q5a q5c (g := (mkF m 55 #[vi sv, vr ro1, vr ib1, vi 0, .unset] [(.ref ro1)])) rfl (by rw [hml]; rfl) (Steps.refl _) (argsL := []) (rest := []) (lenOf own_pd27 rfl) rfl (by show 2 * 0 + _ ≤ _; exact Nat.le_of_eq rfl) (hb hby at_55) (fun _ _ => ⟨rfl, e4, (by decide : 9 + 0 ≤ _), (by decide : 186 + 0 ≤ _)⟩)
  dsimp only [Pt.U, Pt.locs, Pt.cells, Pt.slots] at X5 l5 y5 z5 st5 hQ5
  subst l5 y5 z5
  obtain ⟨rfl, N5q, e5⟩ := hQ5
  have N5 := Fr.app N4 N5q
  refine own_tr (T' := T5) (g' := (mkF m 58 #[vi sv, vr ro1, vr ib1, vi 0, .unset] [(.ref sf1)])) st5 ?_
  refine own_st (T' := T5) (g' := (mkF m 80 #[vi sv, vr ro1, vr ib1, vi 0, vr sf1] [(.int sv), (.ref sf1)])) (fun t k => ?_) ?_
  ·refine XS.astore X5.here hx rfl (hb hby at_58) rfl rfl (l' := #[vi sv, vr ro1, vr ib1, vi 0, vr sf1]) rfl ?_
   refine XS.aload X5.here hx rfl (hb hby at_60) rfl rfl ?_
   refine XS.ifnonnullYes X5.here hx rfl (pc0 := 62) (pc' := 67) rfl (hb hby at_62) rfl (by decide) (by decide) ?_
   refine XS.iloadN X5.here hx rfl (hb hby at_67) rfl ?_
   refine XS.ifYes X5.here hx rfl (pc0 := 68) (pc' := 77) rfl (hb hby at_68) rfl ((if0 _ _).trans (teq (rfl : (0 : Int32) = (0 : Int32))).1) (by decide) (by decide) ?_
   refine XS.aload X5.here hx rfl (hb hby at_77) rfl rfl ?_
   refine XS.iloadN X5.here hx rfl (hb hby at_79) rfl ?_
   exact k
  obtain ⟨_, _, ⟨T6, L6, c6, n6⟩, -, X6, ⟨Lc6, hQ6, l6, y6, z6⟩, st6⟩ := Jvm.LawKit.callS X5 hx (y := own_y31) ho1 (mvT hZ1 (own_w hw 206 rfl)) (mvT hZ1 (own_w hw 207 rfl)) (mvT hZ1 (own_w hw 208 rfl)) (mvT hZ1 (own_w hw 209 rfl)) (by decide) (backOf (W := 1) (own_rm39 l Z a0 hw sv cs h1 n0 Z1 O1 hcs S_cs) hZ1 (own_w hw 209 rfl) (own_w hw 208 rfl) (by decide) (by decide)) (g := (mkF m 80 #[vi sv, vr ro1, vr ib1, vi 0, vr sf1] [(.int sv), (.ref sf1)])) rfl (by rw [hml]; rfl) (argsL := [(.int sv)]) (rest := [(.ref sf1)]) (lenOf own_pd31 rfl) rfl (by show 2 * 0 + _ ≤ _; exact Nat.le_of_eq rfl) (hb hby at_80) (fun _ _ => ⟨rfl, e5, (by decide : 9 + 3 ≤ _), (by decide : 186 + 70 ≤ _)⟩)
  dsimp only [Pt.U, Pt.locs, Pt.cells, Pt.slots] at X6 l6 y6 z6 st6 hQ6
  subst l6 y6 z6
  obtain ⟨h6, e6⟩ : ∃ z, T6.heap = z := ⟨_, rfl⟩
  rw [e6] at hQ6
  obtain ⟨x6, t6, k6, rfl, N6q, Kc6, Ec6, Fo6, Fv6, Vc6⟩ := hQ6
  have N6 := Fr.app N5 N6q
  have K6 : Keep h0 h6 [] := K1.trans Kc6 all0
  have Z6 : n0 ≤ h6.size := Nat.le_trans Z1 Kc6.1
  have O6 := O1.keep Kc6 all0
  have hk6 := Nat.le_trans hk1 Kc6.1
  refine own_st (T' := T6) (g' := (mkF m 83 #[vi sv, vr ro1, vr ib1, vi 0, vr sf1] [(.ref x6), (.ref sf1)])) st6 ?_
  have f7 := Es1.keep Kc6
  have f8 := Fv1.keep Kc6 nin0
  have f9 := Fc1.keep Kc6 nin0
  have f10 := Vt1.keep Kc6 nin0
  have f11 := S_cs.ext O6.2
  obtain ⟨cq12, kq12, q12a, q12b, q12c⟩ := isOf hZ1 e6 f7
  obtain ⟨_, _, ⟨T12, L12, c12, n12⟩, -, X12, ⟨Lc12, hQ12, l12, y12, z12⟩, st12⟩ := X6.virtualBack hx (y := own_y43) (z := own_y43) ho1 (mvT hZ1 (own_w hw 243 rfl)) (mvT hZ1 (own_w hw 244 rfl)) (notFace_of_selects (args := #[]) (mvT hZ1 (own_w hw 246 rfl))) (mvT hZ1 (own_w hw 246 rfl)) (mvT hZ1 (own_w hw 245 rfl)) (by decide) (show Back l room_1 p e below _ _ own_y43 3 _ _ (fun A _ v B => ∃ L, (v = some (.int 1) ∧ Fr n0 L ∧ B.U.heap = h6) ∧ B.locs = A.locs ++ L ∧ B.cells = A.cells + 0 ∧ B.slots = A.slots + 0) from Back.mono (StrChars.Road.eqW (W := 0) hZ1 hwe (kI := 4) (own_w hw 39 rfl) (cs := own_res sv) f7 f8 f9 f10 (own_cod (own_G_res sv)) (own_hb (own_G_res sv)) (hres ▸ own_l4 sv) (ds := own_exp sv) Ec6 Fv6 Fo6 Vc6 (own_cod2 (own_exp_len sv) (own_G_exp sv)) (own_hb (own_G_exp sv)) (own_l4 sv) f11 hcs (by decide) (by decide)) (fun _ _ q => q) (fun A a v B _ ⟨L, ⟨q, q2, q3⟩, q4⟩ => ⟨L, ⟨q.elim (fun z => z.1) (fun z => absurd hres z.2), by rw [q2]; exact Fr.nil n0, q3⟩, q4⟩)) q12a q12c (g := (mkF m 83 #[vi sv, vr ro1, vr ib1, vi 0, vr sf1] [(.ref x6), (.ref sf1)])) rfl (by rw [hml]; rfl) (Steps.refl _) (argsL := [(.ref x6)]) (rest := []) (lenOf own_pd32 rfl) rfl (by show 2 * 0 + _ ≤ _; exact Nat.le_of_eq rfl) (hb hby at_83) (fun _ _ => ⟨rfl, e6, (by decide : 12 + 0 ≤ _), (by decide : 256 + 0 ≤ _)⟩)
  dsimp only [Pt.U, Pt.locs, Pt.cells, Pt.slots] at X12 l12 y12 z12 st12 hQ12
  subst l12 y12 z12
  obtain ⟨rfl, N12q, e12⟩ := hQ12
  have N12 := Fr.app N6 N12q
  refine own_tr (T' := T12) (g' := (mkF m 86 #[vi sv, vr ro1, vr ib1, vi 0, vr sf1] [(.int 1)])) st12 ?_
  exact own_retNW X12 hx Bd (t := .boolean) (by simp) rfl (hb hby at_86) e12 (⟨rfl, N12⟩) hS1 hk6 (by decide) (by decide)
 ·refine own_st (T' := T3) (g' := (mkF m 35 #[vi sv, vr ro1, vr ib1, .unset, .unset] [(.int 299), (.int sv)])) (fun t k => ?_) ?_
  ·refine XS.icmpNo X3.here hx rfl (hb hby at_28) rfl (flt h2).1 ?_
   refine XS.iloadN X3.here hx rfl (hb hby at_31) rfl ?_
   refine XS.sipush X3.here hx rfl (hb hby at_32) ?_
   exact k
  by_cases h3 : (299 : Int32) < sv
  ·refine own_st (T' := T3) (g' := (mkF m 45 #[vi sv, vr ro1, vr ib1, vi 0, .unset] [(.ref ro1)])) (fun t k => ?_) ?_
   ·refine XS.icmpYes X3.here hx rfl (pc0 := 35) (pc' := 42) rfl (hb hby at_35) rfl (tlt h3).2.2.1 (by decide) (by decide) ?_
    refine XS.iconst X3.here hx rfl (hb hby at_42) ?_
    refine XS.istoreN X3.here hx rfl (hb hby at_43) rfl (l' := #[vi sv, vr ro1, vr ib1, vi 0, .unset]) rfl ?_
    refine XS.aloadN X3.here hx rfl (hb hby at_44) rfl rfl ?_
    exact k
   obtain ⟨cq13, kq13, q13a, q13b, q13c⟩ := isOf hZ1 e3 Er1
   obtain ⟨_, _, ⟨T13, L13, c13, n13⟩, -, X13, ⟨Lc13, hQ13, l13, y13, z13⟩, st13⟩ := X3.virtualBack hx (y := own_y41) (z := own_y41) ho1 (mvT hZ1 (own_w hw 195 rfl)) (mvT hZ1 (own_w hw 196 rfl)) (notFace_of_selects (args := #[]) (mvT hZ1 (own_w hw 198 rfl))) (mvT hZ1 (own_w hw 198 rfl)) (mvT hZ1 (own_w hw 197 rfl)) (by decide) (backOf (W := 0) (own_rm37 l Z a0 hw ro1 ib1 sv h1 n0 Z1 Fs1 Ei1 Fi1) hZ1 (own_w hw 199 rfl) (own_w hw 2 rfl) (by decide) (by decide)) q13a q13c (g := (mkF m 45 #[vi sv, vr ro1, vr ib1, vi 0, .unset] [(.ref ro1)])) rfl (by rw [hml]; rfl) (Steps.refl _) (argsL := []) (rest := []) (lenOf own_pd11 rfl) rfl (by show 2 * 0 + _ ≤ _; exact Nat.le_of_eq rfl) (hb hby at_45) (fun _ _ => ⟨rfl, e3, (by decide : 9 + 0 ≤ _), (by decide : 186 + 0 ≤ _)⟩)
   dsimp only [Pt.U, Pt.locs, Pt.cells, Pt.slots] at X13 l13 y13 z13 st13 hQ13
   subst l13 y13 z13
   obtain ⟨rfl, N13q, e13⟩ := hQ13
   have N13 := Fr.app N3 N13q
   refine own_tr (T' := T13) (g' := (mkF m 48 #[vi sv, vr ro1, vr ib1, vi 0, .unset] [(.int (own_ok sv))])) st13 ?_
   have hokv : own_ok sv = 0 := own_okg h2 h3
   have hres := own_res0 hokv
   rw [show (own_ok sv) = (0 : Int32) from hokv]
   refine own_st (T' := T13) (g' := (mkF m 55 #[vi sv, vr ro1, vr ib1, vi 0, .unset] [(.ref ro1)])) (fun t k => ?_) ?_
   ·refine XS.iloadN X13.here hx rfl (hb hby at_48) rfl ?_
    refine XS.icmpYes X13.here hx rfl (pc0 := 49) (pc' := 54) rfl (hb hby at_49) rfl (teq (rfl : (0 : Int32) = (0 : Int32))).1 (by decide) (by decide) ?_
    refine XS.aloadN X13.here hx rfl (hb hby at_54) rfl rfl ?_
    exact k
   obtain ⟨cq14, kq14, q14a, q14b, q14c⟩ := isOf hZ1 e13 Er1
   obtain ⟨_, _, ⟨T14, L14, c14, n14⟩, -, X14, ⟨Lc14, hQ14, l14, y14, z14⟩, st14⟩ := X13.virtualBack hx (y := own_y39) (z := own_y39) ho1 (mvT hZ1 (own_w hw 201 rfl)) (mvT hZ1 (own_w hw 202 rfl)) (notFace_of_selects (args := #[]) (mvT hZ1 (own_w hw 204 rfl))) (mvT hZ1 (own_w hw 204 rfl)) (mvT hZ1 (own_w hw 203 rfl)) (by decide) (backOf (W := 0) (own_rm38 l Z a0 hw ro1 (.ref sf1) h1 n0 Z1 rfl Ff1) hZ1 (own_w hw 205 rfl) (own_w hw 2 rfl) (by decide) (by decide)) q14a q14c (g := (mkF m 55 #[vi sv, vr ro1, vr ib1, vi 0, .unset] [(.ref ro1)])) rfl (by rw [hml]; rfl) (Steps.refl _) (argsL := []) (rest := []) (lenOf own_pd27 rfl) rfl (by show 2 * 0 + _ ≤ _; exact Nat.le_of_eq rfl) (hb hby at_55) (fun _ _ => ⟨rfl, e13, (by decide : 9 + 0 ≤ _), (by decide : 186 + 0 ≤ _)⟩)
   dsimp only [Pt.U, Pt.locs, Pt.cells, Pt.slots] at X14 l14 y14 z14 st14 hQ14
   subst l14 y14 z14
   obtain ⟨rfl, N14q, e14⟩ := hQ14
   have N14 := Fr.app N13 N14q
   refine own_tr (T' := T14) (g' := (mkF m 58 #[vi sv, vr ro1, vr ib1, vi 0, .unset] [(.ref sf1)])) st14 ?_
   refine own_st (T' := T14) (g' := (mkF m 80 #[vi sv, vr ro1, vr ib1, vi 0, vr sf1] [(.int sv), (.ref sf1)])) (fun t k => ?_) ?_
   ·refine XS.astore X14.here hx rfl (hb hby at_58) rfl rfl (l' := #[vi sv, vr ro1, vr ib1, vi 0, vr sf1]) rfl ?_
    refine XS.aload X14.here hx rfl (hb hby at_60) rfl rfl ?_
    refine XS.ifnonnullYes X14.here hx rfl (pc0 := 62) (pc' := 67) rfl (hb hby at_62) rfl (by decide) (by decide) ?_
    refine XS.iloadN X14.here hx rfl (hb hby at_67) rfl ?_
    refine XS.ifYes X14.here hx rfl (pc0 := 68) (pc' := 77) rfl (hb hby at_68) rfl ((if0 _ _).trans (teq (rfl : (0 : Int32) = (0 : Int32))).1) (by decide) (by decide) ?_
    refine XS.aload X14.here hx rfl (hb hby at_77) rfl rfl ?_
    refine XS.iloadN X14.here hx rfl (hb hby at_79) rfl ?_
    exact k
   obtain ⟨_, _, ⟨T15, L15, c15, n15⟩, -, X15, ⟨Lc15, hQ15, l15, y15, z15⟩, st15⟩ := Jvm.LawKit.callS X14 hx (y := own_y31) ho1 (mvT hZ1 (own_w hw 206 rfl)) (mvT hZ1 (own_w hw 207 rfl)) (mvT hZ1 (own_w hw 208 rfl)) (mvT hZ1 (own_w hw 209 rfl)) (by decide) (backOf (W := 1) (own_rm39 l Z a0 hw sv cs h1 n0 Z1 O1 hcs S_cs) hZ1 (own_w hw 209 rfl) (own_w hw 208 rfl) (by decide) (by decide)) (g := (mkF m 80 #[vi sv, vr ro1, vr ib1, vi 0, vr sf1] [(.int sv), (.ref sf1)])) rfl (by rw [hml]; rfl) (argsL := [(.int sv)]) (rest := [(.ref sf1)]) (lenOf own_pd31 rfl) rfl (by show 2 * 0 + _ ≤ _; exact Nat.le_of_eq rfl) (hb hby at_80) (fun _ _ => ⟨rfl, e14, (by decide : 9 + 3 ≤ _), (by decide : 186 + 70 ≤ _)⟩)
   dsimp only [Pt.U, Pt.locs, Pt.cells, Pt.slots] at X15 l15 y15 z15 st15 hQ15
   subst l15 y15 z15
   obtain ⟨h15, e15⟩ : ∃ z, T15.heap = z := ⟨_, rfl⟩
   rw [e15] at hQ15
   obtain ⟨x15, t15, k15, rfl, N15q, Kc15, Ec15, Fo15, Fv15, Vc15⟩ := hQ15
   have N15 := Fr.app N14 N15q
   have K15 : Keep h0 h15 [] := K1.trans Kc15 all0
   have Z15 : n0 ≤ h15.size := Nat.le_trans Z1 Kc15.1
   have O15 := O1.keep Kc15 all0
   have hk15 := Nat.le_trans hk1 Kc15.1
   refine own_st (T' := T15) (g' := (mkF m 83 #[vi sv, vr ro1, vr ib1, vi 0, vr sf1] [(.ref x15), (.ref sf1)])) st15 ?_
   have f16 := Es1.keep Kc15
   have f17 := Fv1.keep Kc15 nin0
   have f18 := Fc1.keep Kc15 nin0
   have f19 := Vt1.keep Kc15 nin0
   have f20 := S_cs.ext O15.2
   obtain ⟨cq21, kq21, q21a, q21b, q21c⟩ := isOf hZ1 e15 f16
   obtain ⟨_, _, ⟨T21, L21, c21, n21⟩, -, X21, ⟨Lc21, hQ21, l21, y21, z21⟩, st21⟩ := X15.virtualBack hx (y := own_y43) (z := own_y43) ho1 (mvT hZ1 (own_w hw 243 rfl)) (mvT hZ1 (own_w hw 244 rfl)) (notFace_of_selects (args := #[]) (mvT hZ1 (own_w hw 246 rfl))) (mvT hZ1 (own_w hw 246 rfl)) (mvT hZ1 (own_w hw 245 rfl)) (by decide) (show Back l room_1 p e below _ _ own_y43 3 _ _ (fun A _ v B => ∃ L, (v = some (.int 1) ∧ Fr n0 L ∧ B.U.heap = h15) ∧ B.locs = A.locs ++ L ∧ B.cells = A.cells + 0 ∧ B.slots = A.slots + 0) from Back.mono (StrChars.Road.eqW (W := 0) hZ1 hwe (kI := 4) (own_w hw 39 rfl) (cs := own_res sv) f16 f17 f18 f19 (own_cod (own_G_res sv)) (own_hb (own_G_res sv)) (hres ▸ own_l4 sv) (ds := own_exp sv) Ec15 Fv15 Fo15 Vc15 (own_cod2 (own_exp_len sv) (own_G_exp sv)) (own_hb (own_G_exp sv)) (own_l4 sv) f20 hcs (by decide) (by decide)) (fun _ _ q => q) (fun A a v B _ ⟨L, ⟨q, q2, q3⟩, q4⟩ => ⟨L, ⟨q.elim (fun z => z.1) (fun z => absurd hres z.2), by rw [q2]; exact Fr.nil n0, q3⟩, q4⟩)) q21a q21c (g := (mkF m 83 #[vi sv, vr ro1, vr ib1, vi 0, vr sf1] [(.ref x15), (.ref sf1)])) rfl (by rw [hml]; rfl) (Steps.refl _) (argsL := [(.ref x15)]) (rest := []) (lenOf own_pd32 rfl) rfl (by show 2 * 0 + _ ≤ _; exact Nat.le_of_eq rfl) (hb hby at_83) (fun _ _ => ⟨rfl, e15, (by decide : 12 + 0 ≤ _), (by decide : 256 + 0 ≤ _)⟩)
   dsimp only [Pt.U, Pt.locs, Pt.cells, Pt.slots] at X21 l21 y21 z21 st21 hQ21
   subst l21 y21 z21
   obtain ⟨rfl, N21q, e21⟩ := hQ21
   have N21 := Fr.app N15 N21q
   refine own_tr (T' := T21) (g' := (mkF m 86 #[vi sv, vr ro1, vr ib1, vi 0, vr sf1] [(.int 1)])) st21 ?_
   exact own_retNW X21 hx Bd (t := .boolean) (by simp) rfl (hb hby at_86) e21 (⟨rfl, N21⟩) hS1 hk15 (by decide) (by decide)
  ·refine own_st (T' := T3) (g' := (mkF m 45 #[vi sv, vr ro1, vr ib1, vi 1, .unset] [(.ref ro1)])) (fun t k => ?_) ?_
   ·refine XS.icmpNo X3.here hx rfl (hb hby at_35) rfl (flt h3).2.2.1 ?_
    refine XS.iconst X3.here hx rfl (hb hby at_38) ?_
    refine XS.goto X3.here hx rfl (pc0 := 39) (pc' := 43) rfl (hb hby at_39) (by decide) (by decide) ?_
    refine XS.istoreN X3.here hx rfl (hb hby at_43) rfl (l' := #[vi sv, vr ro1, vr ib1, vi 1, .unset]) rfl ?_
    refine XS.aloadN X3.here hx rfl (hb hby at_44) rfl rfl ?_
    exact k
   obtain ⟨cq22, kq22, q22a, q22b, q22c⟩ := isOf hZ1 e3 Er1
   obtain ⟨_, _, ⟨T22, L22, c22, n22⟩, -, X22, ⟨Lc22, hQ22, l22, y22, z22⟩, st22⟩ := X3.virtualBack hx (y := own_y41) (z := own_y41) ho1 (mvT hZ1 (own_w hw 195 rfl)) (mvT hZ1 (own_w hw 196 rfl)) (notFace_of_selects (args := #[]) (mvT hZ1 (own_w hw 198 rfl))) (mvT hZ1 (own_w hw 198 rfl)) (mvT hZ1 (own_w hw 197 rfl)) (by decide) (backOf (W := 0) (own_rm37 l Z a0 hw ro1 ib1 sv h1 n0 Z1 Fs1 Ei1 Fi1) hZ1 (own_w hw 199 rfl) (own_w hw 2 rfl) (by decide) (by decide)) q22a q22c (g := (mkF m 45 #[vi sv, vr ro1, vr ib1, vi 1, .unset] [(.ref ro1)])) rfl (by rw [hml]; rfl) (Steps.refl _) (argsL := []) (rest := []) (lenOf own_pd11 rfl) rfl (by show 2 * 0 + _ ≤ _; exact Nat.le_of_eq rfl) (hb hby at_45) (fun _ _ => ⟨rfl, e3, (by decide : 9 + 0 ≤ _), (by decide : 186 + 0 ≤ _)⟩)
   dsimp only [Pt.U, Pt.locs, Pt.cells, Pt.slots] at X22 l22 y22 z22 st22 hQ22
   subst l22 y22 z22
   obtain ⟨rfl, N22q, e22⟩ := hQ22
   have N22 := Fr.app N3 N22q
   refine own_tr (T' := T22) (g' := (mkF m 48 #[vi sv, vr ro1, vr ib1, vi 1, .unset] [(.int (own_ok sv))])) st22 ?_
   have hokv : own_ok sv = 1 := own_ok1 h2 h3
   have hres := own_res1 hokv
   rw [show (own_ok sv) = (1 : Int32) from hokv]
   refine own_st (T' := T22) (g' := (mkF m 55 #[vi sv, vr ro1, vr ib1, vi 1, .unset] [(.ref ro1)])) (fun t k => ?_) ?_
   ·refine XS.iloadN X22.here hx rfl (hb hby at_48) rfl ?_
    refine XS.icmpYes X22.here hx rfl (pc0 := 49) (pc' := 54) rfl (hb hby at_49) rfl (teq (rfl : (1 : Int32) = (1 : Int32))).1 (by decide) (by decide) ?_
    refine XS.aloadN X22.here hx rfl (hb hby at_54) rfl rfl ?_
    exact k
   obtain ⟨cq23, kq23, q23a, q23b, q23c⟩ := isOf hZ1 e22 Er1
   obtain ⟨_, _, ⟨T23, L23, c23, n23⟩, -, X23, ⟨Lc23, hQ23, l23, y23, z23⟩, st23⟩ := X22.virtualBack hx (y := own_y39) (z := own_y39) ho1 (mvT hZ1 (own_w hw 201 rfl)) (mvT hZ1 (own_w hw 202 rfl)) (notFace_of_selects (args := #[]) (mvT hZ1 (own_w hw 204 rfl))) (mvT hZ1 (own_w hw 204 rfl)) (mvT hZ1 (own_w hw 203 rfl)) (by decide) (backOf (W := 0) (own_rm38 l Z a0 hw ro1 (.ref sf1) h1 n0 Z1 rfl Ff1) hZ1 (own_w hw 205 rfl) (own_w hw 2 rfl) (by decide) (by decide)) q23a q23c (g := (mkF m 55 #[vi sv, vr ro1, vr ib1, vi 1, .unset] [(.ref ro1)])) rfl (by rw [hml]; rfl) (Steps.refl _) (argsL := []) (rest := []) (lenOf own_pd27 rfl) rfl (by show 2 * 0 + _ ≤ _; exact Nat.le_of_eq rfl) (hb hby at_55) (fun _ _ => ⟨rfl, e22, (by decide : 9 + 0 ≤ _), (by decide : 186 + 0 ≤ _)⟩)
   dsimp only [Pt.U, Pt.locs, Pt.cells, Pt.slots] at X23 l23 y23 z23 st23 hQ23
   subst l23 y23 z23
   obtain ⟨rfl, N23q, e23⟩ := hQ23
   have N23 := Fr.app N22 N23q
   refine own_tr (T' := T23) (g' := (mkF m 58 #[vi sv, vr ro1, vr ib1, vi 1, .unset] [(.ref sf1)])) st23 ?_
   refine own_st (T' := T23) (g' := (mkF m 73 #[vi sv, vr ro1, vr ib1, vi 1, vr sf1] [(.ref sf1)])) (fun t k => ?_) ?_
   ·refine XS.astore X23.here hx rfl (hb hby at_58) rfl rfl (l' := #[vi sv, vr ro1, vr ib1, vi 1, vr sf1]) rfl ?_
    refine XS.aload X23.here hx rfl (hb hby at_60) rfl rfl ?_
    refine XS.ifnonnullYes X23.here hx rfl (pc0 := 62) (pc' := 67) rfl (hb hby at_62) rfl (by decide) (by decide) ?_
    refine XS.iloadN X23.here hx rfl (hb hby at_67) rfl ?_
    refine XS.ifNo X23.here hx rfl (hb hby at_68) rfl ((if0 _ _).trans (feq (by decide : ¬ ((1 : Int32) = (0 : Int32)))).1) ?_
    refine XS.aload X23.here hx rfl (hb hby at_71) rfl rfl ?_
    exact k
   have Vn := Vt1
   rw [hres] at Vn
   obtain ⟨cq24, kq24, q24a, q24b, q24c⟩ := isOf hZ1 e23 Es1
   obtain ⟨_, _, ⟨T24, L24, c24, n24⟩, -, X24, ⟨Lc24, hQ24, l24, y24, z24⟩, st24⟩ := X23.virtualBack hx (y := own_y44) (z := own_y44) ho1 (mvT hZ1 (own_w hw 268 rfl)) (mvT hZ1 (own_w hw 269 rfl)) (notFace_of_selects (args := #[]) (mvT hZ1 (own_w hw 271 rfl))) (mvT hZ1 (own_w hw 271 rfl)) (mvT hZ1 (own_w hw 270 rfl)) (by decide) (show Back l room_1 p e below _ _ own_y44 3 _ _ (fun A _ v B => ∃ L, (v = some (.int 1) ∧ Fr n0 L ∧ B.U.heap = h1) ∧ B.locs = A.locs ++ L ∧ B.cells = A.cells + 0 ∧ B.slots = A.slots + 0) from Back.mono (StrChars.Road.empW (W := 0) hZ1 hwp (kI := 4) (own_w hw 39 rfl) (cs := []) Es1 Fv1 Fc1 Vn (own_cod (L := []) (fun _ q => nomatch q)) (fun _ q => nomatch q) (Nat.zero_le _) (by decide) (by decide)) (fun _ _ q => q) (fun A a v B _ ⟨L, ⟨q, q2, q3⟩, q4⟩ => ⟨L, ⟨q, by rw [q2]; exact Fr.nil n0, q3⟩, q4⟩)) q24a q24c (g := (mkF m 73 #[vi sv, vr ro1, vr ib1, vi 1, vr sf1] [(.ref sf1)])) rfl (by rw [hml]; rfl) (Steps.refl _) (argsL := []) (rest := []) (lenOf own_pd11 rfl) rfl (by show 2 * 0 + _ ≤ _; exact Nat.le_of_eq rfl) (hb hby at_73) (fun _ _ => ⟨rfl, e23, (by decide : 9 + 0 ≤ _), (by decide : 186 + 0 ≤ _)⟩)
   dsimp only [Pt.U, Pt.locs, Pt.cells, Pt.slots] at X24 l24 y24 z24 st24 hQ24
   subst l24 y24 z24
   obtain ⟨rfl, N24q, e24⟩ := hQ24
   have N24 := Fr.app N23 N24q
   refine own_tr (T' := T24) (g' := (mkF m 76 #[vi sv, vr ro1, vr ib1, vi 1, vr sf1] [(.int 1)])) st24 ?_
   exact own_retNW X24 hx Bd (t := .boolean) (by simp) rfl (hb hby at_76) e24 (⟨rfl, N24⟩) hS1 hk1 (by decide) (by decide)
set_option maxRecDepth 65536 in
set_option maxHeartbeats 40000000 in
theorem own_comes_1 {Post : Tables → Env → Array Value → State → Outcome → State → Prop} (hpost : ∀ tb e args s v u, (limb_1_1.after args s (.returned v) u = true ∧ limb_1_2.after args s (.returned v) u = true ∧ True) → ReturnedEndW s (.returned v) u (Jvm.fieldLocs frame_1_writes args s ++ Jvm.arrayLocs frame_1_arrays args s ++ Jvm.staticLocs frame_1_statics s) 32 2496 → Post tb e args s (.returned v) u) :
    ArmFor flags0 classFile x code maxLocals ret World_1 tables_1 room_1 Calls_1 rest_1 Pre_1 Post := by
  intro l hfl _ _ p e ha hc hk s m args below hf hA hF happ hP
  obtain ⟨hcalls, hrest, hpre⟩ := hP
  obtain ⟨-, -, -, hnamed, -, -, -, hat⟩ := (Spec.applies_iff hf).mp happ
  obtain ⟨hg, hn⟩ := and_e (Cond.before_iff.mp (show (Jvm.Cond.and given_1 narrow_1).before args s = true from hpre))
  obtain ⟨hg0, hgr⟩ := and_e hg
  have ha0 := hgr
  obtain ⟨w0, rfl⟩ : ∃ w0 : Value, args = #[w0] := by
    have hs : args.size = 1 := by simpa [Cond.value, given_1] using hg0
    obtain ⟨L⟩ := args
    match L, hs with
    | [w0], _ => exact ⟨w0, rfl⟩
  have hw := fun d (hd : d ∈ tables_1) => atoms_spec (ws := Jvm.Cond.code x code maxLocals ret :: tables_1) hat d (List.mem_cons_of_mem _ hd)
  have hfit : Fit s := fun {y c} hc i hi => by
    obtain ⟨ha, rfl⟩ := Array.getElem?_eq_some_iff.mp hc
    have q := List.all_eq_true.mp ((Array.all_eq_true_iff_forall_mem.mp hF) _ (Array.getElem_mem ha)) i (List.mem_range.mpr hi)
    simpa [Array.getElem?_eq_getElem hi] using q
  obtain ⟨hsets, hown0⟩ := atoms_of _ (rest_1_c_eq ▸ (show rest_1_c.before _ s = true from hrest))
  obtain ⟨i0, ei0⟩ := is_v ha0
  obtain rfl : w0 = (.int i0) := Option.some.inj ei0
  have S_hi := own_sint (Cond.before_iff.mp (hsets _ (List.mem_of_getElem? (i := 3) rfl))) (Or.inl (hsets _ (List.mem_of_getElem? (i := 1) rfl)))
  have ar_c := Cond.before_iff.mp (hsets _ (List.mem_of_getElem? (i := 4) rfl))
  obtain ⟨ca, ev_c⟩ := arr_v ar_c
  obtain ⟨cc, A_c⟩ := Arr.start ev_c ar_c
  have S_ca : Sta s s.heap "java/lang/Integer$IntegerCache" "cache" "[Ljava/lang/Integer;" (.ref ca) := own_twin S_hi (hsets _ (List.mem_of_getElem? (i := 0) rfl)) (hsets _ (List.mem_of_getElem? (i := 2) rfl)) ev_c
  obtain ⟨lc, zc⟩ := own_len ev_c A_c (Cond.before_iff.mp (hsets _ (List.mem_of_getElem? (i := 6) rfl)))
  have B_c : Bxs s ca cc "java/lang/Integer" "I" (256 : Int32) (fun j => .int (j - 128)) := Bxs.start (fun _ => ev_c) A_c lc zc (by decide) (Cond.before_iff.mp (hsets _ (List.mem_of_getElem? (i := 7) rfl))) (fun X j hj hX => eqv_i (own_idx128 hj) hX)
  obtain ⟨cs, ev_cs⟩ := is_v (Cond.before_iff.mp (hsets _ (List.mem_of_getElem? (i := 9) rfl)))
  have S_cs := Sta.start ev_cs (Or.inl (hsets _ (List.mem_of_getElem? (i := 8) rfl)))
  have hcw := (hsets _ (List.mem_of_getElem? (i := 10) rfl))
  have hcs : ¬ cs = (0 : Int32) := gotF (Cond.eq_ints ev_cs (Term.int_eval 0)) (by have q := not_v (Cond.before_iff.mp hcw); exact q)
  obtain ⟨d1, kd1, ev_d1, V_o⟩ := own_tbl (tab := own_tab1) (hsets _ (List.mem_of_getElem? (i := 20) rfl)) (hsets _ (List.mem_of_getElem? (i := 21) rfl)) (hsets _ (List.mem_of_getElem? (i := 22) rfl)) (hw _ (List.mem_of_getElem? (i := 33) rfl)) (fun k hk => by rw [own_t1 hk, ← Jvm.Free.SBG.ones_num k hk]; rfl) (by decide +kernel)
  have S_o := Sta.start ev_d1 (Or.inl (hsets _ (List.mem_of_getElem? (i := 19) rfl)))
  obtain ⟨d2, kd2, ev_d2, V_t⟩ := own_tbl (tab := own_tab2) (hsets _ (List.mem_of_getElem? (i := 25) rfl)) (hsets _ (List.mem_of_getElem? (i := 26) rfl)) (hsets _ (List.mem_of_getElem? (i := 27) rfl)) (hw _ (List.mem_of_getElem? (i := 33) rfl)) (fun k hk => by rw [own_t2 hk, ← Jvm.Free.SBG.tens_num k hk]; rfl) (by decide +kernel)
  have S_t := Sta.start ev_d2 (Or.inl (hsets _ (List.mem_of_getElem? (i := 24) rfl)))
  have hEL : EW s _ consts_1 := EW.cons (text := "") (hw _ (List.mem_of_getElem? (i := 267) rfl)) (by decide) (EW.cons (text := "the receiver answered ") (hw _ (List.mem_of_getElem? (i := 38) rfl)) own_ht32.1 EW.nil)
  have hCH : CHv s consts_1 s.vm s.heap := CHv.start hEL (fun q hq => hcalls.1 q hq) hcw (hw _ (List.mem_of_getElem? (i := 33) rfl)) (hw _ (List.mem_of_getElem? (i := 39) rfl))
  obtain ⟨n, o, h1, h2, h3, _, L, rfl, ⟨rfl, N⟩, hq⟩ := own_rm0 l s _ hw tables_1 i0 ca cc d1 d2 kd1 kd2 cs s.heap s.heap.size (Nat.le_refl _) (Old.start s) S_hi S_ca B_c S_o S_t V_o V_t hcs S_cs p e ha hc hk s m _ below hf ((Spec.applies_iff_loose hf).mp happ).1 ⟨rfl, State.Warmed39.refl s, rfl, hCH⟩ trivial
  refine ⟨n, _, h1, h2, h3, hpost _ _ _ _ _ _ ⟨Cond.after_iff.mpr rfl, Cond.after_iff.mpr (eq_i res_at (Term.int_eval (1)) rfl), trivial⟩ ⟨hq.1, hq.2.1, hq.2.2.1, (hq.2.2.2.sift fun y hy => Or.inr (N y hy)).mono (by decide) (by decide)⟩⟩
theorem main_1_1 : Claimed_1_1 := own_comes_1 fun _ _ _ _ _ _ h hF => ⟨h.1, hF⟩
theorem main_1_2 : Claimed_1_2 := own_comes_1 fun _ _ _ _ _ _ h hF => ⟨h.2.1, hF⟩
end Jvm.Pilot.@@N@@
namespace Jvm.Pilot.@@N@@
open Jvm Jvm.ClassFile Sem Op Lib Jvm.Free Jvm.Stand Jvm.Pilot.@@N@@.Jvm.D
/-! MADE BY PROGRAM (witnessworld.py) out of the Statement's table words and the real class files: 30 classes; the members and pool entries that the words name. The judged class is class 1, her method 1. -/
namespace start1
open Jvm.ClassFile
def u (s : String) : CpInfo := .utf8 (stringToUtf16 s)
/-- a pool by its gaps: so many unusable entries, then the entry; so many at the end -/
def gap : Nat → List CpInfo → List CpInfo
  | 0, r => r
  | n + 1, r => .unusable :: gap n r
def poolList (es : List (Nat × CpInfo)) (last : Nat) : List CpInfo := es.foldr (fun e r => gap e.1 (e.2 :: r)) (gap last [])
def pool (es : List (Nat × CpInfo)) (last : Nat) : Array CpInfo := ⟨poolList es last⟩
def fileOf (pool : Array CpInfo) (this : Nat) (attrs : Array Attribute := #[]) (ms : Array MethodInfo := #[]) (fl : Nat := 33) (sup : Nat := 0) (ifs : Array Nat := #[]) (fds : Array FieldInfo := #[]) : ClassFile where
  minorVersion := 0
  majorVersion := 65
  constantPool := pool
  accessFlags := fl
  thisClass := this
  superClass := sup
  interfaces := ifs
  fields := fds
  methods := ms
  attributes := attrs
def plain (name : String) (sup : Option ClassId) : Class where
  name := name
  kind := .ordinary
  loader := none
  accessFlags := 33
  super := sup
  interfaces := #[]
  cf := none
  fields := #[]
  methods := #[]
  instanceTypes := #[]
  staticTypes := #[]
  resolved := #[]
  callSites := []
  init := .initialized
  statics := none
  mirror := none

def pool0 : Array CpInfo := pool [(5, u "<init>"), (0, u "()V"), (1, .class_ 10), (1, u "java/lang/Object")] 113

def k0c0 : Code := { maxStack := 0, maxLocals := 1, code := object_method_1_code, exceptionTable := #[], attributes := #[] }
def k0m0 : Method := { name := "<init>", desc := "()V", sig := { parameters := [], returnType := none }, accessFlags := 1, code := some k0c0 }
/-- java/lang/Object -/
def k0 : Class := { plain "java/lang/Object" none with
  accessFlags := 33
  interfaces := #[]
  cf := some (fileOf pool0 8 #[] #[{ accessFlags := 1, nameIndex := 5, descriptorIndex := 6, attributes := #[] }] 33 0 #[] #[])
  fields := #[]
  methods := #[k0m0]
  instanceTypes := #[]
  staticTypes := #[]
  resolved := Array.replicate 124 none
  statics := none }

def pool1 : Array CpInfo := pool [(2, .class_ 4), (1, u "java/lang/Object"), (0, u "<init>"), (0, u "()V"), (0, .methodref 8 9), (0, .class_ 10), (0, .nameAndType 11 12), (0, u "com/example/durable_cron/durablecron/store/RequestOutcome"), (0, u "answered"), (0, u "(I)Lcom/example/durable_cron/durablecron/store/RequestOutcome;"), (0, .methodref 8 14), (0, .nameAndType 15 16), (0, u "getStatusCode"), (0, u "()Ljava/lang/Integer;"), (0, .methodref 18 19), (0, .class_ 20), (0, .nameAndType 21 22), (0, u "java/lang/Integer"), (0, u "intValue"), (0, u "()I"), (0, .methodref 8 24), (0, .nameAndType 25 26), (0, u "succeeded"), (0, u "()Z"), (0, .methodref 8 28), (0, .nameAndType 29 30), (0, u "getFailure"), (0, u "()Ljava/lang/String;"), (0, .methodref 32 33), (0, .class_ 34), (0, .nameAndType 35 26), (0, u "java/lang/String"), (0, u "isEmpty"), (0, .methodref 37 38), (0, .class_ 39), (0, .nameAndType 40 41), (0, u "com/example/durable_cron/durablecron/store/RequestOutcomeAnsweredPinLaw"), (0, u "expectedFailure"), (0, u "(I)Ljava/lang/String;"), (0, .methodref 32 43), (0, .nameAndType 44 45), (0, u "equals"), (0, u "(Ljava/lang/Object;)Z"), (0, .long 10), (1, .long 100), (1, .long 1000), (1, .long 10000), (1, .long 100000), (1, .long 1000000), (1, .long 10000000), (1, .long 100000000), (1, .long 1000000000), (1, .methodref 37 65), (0, .nameAndType 66 67), (0, u "digits"), (0, u "(J)I"), (0, .methodref 37 69), (0, .nameAndType 70 71), (0, u "put"), (0, u "([CIJIIJ)V"), (0, .methodref 32 73), (0, .nameAndType 5 74), (0, u "([C)V"), (2, u "law"), (0, u "(I)Z")] 5

def k1m0 : Method := { name := "<init>", desc := "()V", sig := { parameters := [], returnType := none }, accessFlags := 1, code := none }
def k1c1 : Code := { maxStack := 2, maxLocals := 5, code := code, exceptionTable := #[], attributes := #[] }
def k1m1 : Method := { name := "law", desc := "(I)Z", sig := { parameters := [.int], returnType := some .boolean }, accessFlags := 9, code := some k1c1 }
def k1c2 : Code := { maxStack := 4, maxLocals := 2, code := method_3_code, exceptionTable := #[], attributes := #[] }
def k1m2 : Method := { name := "digits", desc := "(J)I", sig := { parameters := [.long], returnType := some .int }, accessFlags := 10, code := some k1c2 }
def k1c3 : Code := { maxStack := 7, maxLocals := 8, code := method_4_code, exceptionTable := #[], attributes := #[] }
def k1m3 : Method := { name := "put", desc := "([CIJIIJ)V", sig := { parameters := [(.array .char), .int, .long, .int, .int, .long], returnType := none }, accessFlags := 10, code := some k1c3 }
def k1c4 : Code := { maxStack := 8, maxLocals := 7, code := method_5_code, exceptionTable := #[], attributes := #[] }
def k1m4 : Method := { name := "expectedFailure", desc := "(I)Ljava/lang/String;", sig := { parameters := [.int], returnType := some (.object "java/lang/String") }, accessFlags := 10, code := some k1c4 }
/-- com/example/durable_cron/durablecron/store/RequestOutcomeAnsweredPinLaw -/
def k1 : Class := { plain "com/example/durable_cron/durablecron/store/RequestOutcomeAnsweredPinLaw" (some 0) with
  accessFlags := 49
  interfaces := #[]
  cf := some (fileOf pool1 37 #[] #[{ accessFlags := 1, nameIndex := 5, descriptorIndex := 6, attributes := #[] }, { accessFlags := 9, nameIndex := 77, descriptorIndex := 78, attributes := #[] }, { accessFlags := 10, nameIndex := 66, descriptorIndex := 67, attributes := #[] }, { accessFlags := 10, nameIndex := 70, descriptorIndex := 71, attributes := #[] }, { accessFlags := 10, nameIndex := 40, descriptorIndex := 41, attributes := #[] }] 49 2 #[] #[])
  fields := #[]
  methods := #[k1m0, k1m1, k1m2, k1m3, k1m4]
  instanceTypes := #[]
  staticTypes := #[]
  resolved := Array.replicate 84 none
  statics := none }

def pool2 : Array CpInfo := pool [(1, .methodref 2 3), (0, .class_ 4), (0, .nameAndType 5 6), (0, u "java/lang/Object"), (0, u "<init>"), (0, u "()V"), (0, .fieldref 8 9), (0, .class_ 10), (0, .nameAndType 11 12), (0, u "com/example/durable_cron/durablecron/store/RequestOutcome"), (0, u "statusCode"), (0, u "Ljava/lang/Integer;"), (0, .fieldref 8 14), (0, .nameAndType 15 16), (0, u "failure"), (0, u "Ljava/lang/String;"), (0, .methodref 18 19), (0, .class_ 20), (0, .nameAndType 21 22), (0, u "java/lang/Integer"), (0, u "valueOf"), (0, u "(I)Ljava/lang/Integer;"), (0, .methodref 8 24), (0, .nameAndType 25 26), (0, u "isSuccess"), (0, u "(I)Z"), (0, .string 28), (0, u ""), (0, .class_ 30), (0, u "java/lang/StringBuilder"), (0, .methodref 29 3), (0, .string 33), (0, u "the receiver answered "), (0, .methodref 29 35), (0, .nameAndType 36 37), (0, u "append"), (0, u "(Ljava/lang/String;)Ljava/lang/StringBuilder;"), (0, .methodref 29 39), (0, .nameAndType 36 40), (0, u "(I)Ljava/lang/StringBuilder;"), (0, .methodref 29 42), (0, .nameAndType 43 44), (0, u "toString"), (0, u "()Ljava/lang/String;"), (0, .methodref 8 46), (0, .nameAndType 5 47), (0, u "(Ljava/lang/Integer;Ljava/lang/String;)V"), (0, .methodref 18 49), (0, .nameAndType 50 51), (0, u "intValue"), (0, u "()I"), (2, u "answered"), (0, u "(I)Lcom/example/durable_cron/durablecron/store/RequestOutcome;"), (5, u "succeeded"), (0, u "()Z"), (0, u "getStatusCode"), (0, u "()Ljava/lang/Integer;"), (0, u "getFailure")] 2

def k2c0 : Code := { maxStack := 2, maxLocals := 3, code := prog_28_method_1_code, exceptionTable := #[], attributes := #[] }
def k2m0 : Method := { name := "<init>", desc := "(Ljava/lang/Integer;Ljava/lang/String;)V", sig := { parameters := [(.object "java/lang/Integer"), (.object "java/lang/String")], returnType := none }, accessFlags := 0, code := some k2c0 }
def k2c1 : Code := { maxStack := 5, maxLocals := 1, code := prog_28_method_2_code, exceptionTable := #[], attributes := #[] }
def k2m1 : Method := { name := "answered", desc := "(I)Lcom/example/durable_cron/durablecron/store/RequestOutcome;", sig := { parameters := [.int], returnType := some (.object "com/example/durable_cron/durablecron/store/RequestOutcome") }, accessFlags := 9, code := some k2c1 }
def k2c2 : Code := { maxStack := 1, maxLocals := 1, code := prog_28_method_4_code, exceptionTable := #[], attributes := #[] }
def k2m2 : Method := { name := "succeeded", desc := "()Z", sig := { parameters := [], returnType := some .boolean }, accessFlags := 1, code := some k2c2 }
def k2c3 : Code := { maxStack := 1, maxLocals := 1, code := prog_28_method_5_code, exceptionTable := #[], attributes := #[] }
def k2m3 : Method := { name := "getStatusCode", desc := "()Ljava/lang/Integer;", sig := { parameters := [], returnType := some (.object "java/lang/Integer") }, accessFlags := 1, code := some k2c3 }
def k2c4 : Code := { maxStack := 1, maxLocals := 1, code := prog_28_method_6_code, exceptionTable := #[], attributes := #[] }
def k2m4 : Method := { name := "getFailure", desc := "()Ljava/lang/String;", sig := { parameters := [], returnType := some (.object "java/lang/String") }, accessFlags := 1, code := some k2c4 }
def k2c5 : Code := { maxStack := 2, maxLocals := 1, code := prog_28_method_7_code, exceptionTable := #[], attributes := #[] }
def k2m5 : Method := { name := "isSuccess", desc := "(I)Z", sig := { parameters := [.int], returnType := some .boolean }, accessFlags := 10, code := some k2c5 }
/-- com/example/durable_cron/durablecron/store/RequestOutcome -/
def k2 : Class := { plain "com/example/durable_cron/durablecron/store/RequestOutcome" (some 0) with
  accessFlags := 33
  interfaces := #[]
  cf := some (fileOf pool2 8 #[] #[{ accessFlags := 0, nameIndex := 5, descriptorIndex := 47, attributes := #[] }, { accessFlags := 9, nameIndex := 54, descriptorIndex := 55, attributes := #[] }, { accessFlags := 1, nameIndex := 61, descriptorIndex := 62, attributes := #[] }, { accessFlags := 1, nameIndex := 63, descriptorIndex := 64, attributes := #[] }, { accessFlags := 1, nameIndex := 65, descriptorIndex := 44, attributes := #[] }, { accessFlags := 10, nameIndex := 25, descriptorIndex := 26, attributes := #[] }] 33 2 #[] #[{ accessFlags := 18, nameIndex := 11, descriptorIndex := 12, attributes := #[] }, { accessFlags := 18, nameIndex := 15, descriptorIndex := 16, attributes := #[] }])
  fields := #[{ name := "statusCode", type := (.object "java/lang/Integer"), accessFlags := 18, slot := 0, constantValue := 0 }, { name := "failure", type := (.object "java/lang/String"), accessFlags := 18, slot := 1, constantValue := 0 }]
  methods := #[k2m0, k2m1, k2m2, k2m3, k2m4, k2m5]
  instanceTypes := #[(.object "java/lang/Integer"), (.object "java/lang/String")]
  staticTypes := #[]
  resolved := Array.replicate 68 none
  statics := none }

def pool3 : Array CpInfo := pool [(1, .class_ 2), (0, u "java/io/Serializable"), (0, .class_ 4), (0, u "java/lang/Object")] 2

/-- java/io/Serializable -/
def k3 : Class := { plain "java/io/Serializable" (some 0) with
  accessFlags := 1537
  interfaces := #[]
  cf := some (fileOf pool3 1 #[] #[] 1537 3 #[] #[])
  fields := #[]
  methods := #[]
  instanceTypes := #[]
  staticTypes := #[]
  resolved := Array.replicate 7 none
  statics := none }

def pool4 : Array CpInfo := pool [(1, .methodref 2 3), (0, .class_ 4), (0, .nameAndType 5 6), (0, u "java/lang/Object"), (0, u "<init>"), (0, u "()V"), (1, .class_ 10), (1, u "java/lang/Number"), (2, .class_ 14), (0, u "java/io/Serializable"), (0, u "serialVersionUID"), (0, u "J")] 20

def k4c0 : Code := { maxStack := 1, maxLocals := 1, code := jdk_18_method_1_code, exceptionTable := #[], attributes := #[] }
def k4m0 : Method := { name := "<init>", desc := "()V", sig := { parameters := [], returnType := none }, accessFlags := 1, code := some k4c0 }
/-- java/lang/Number -/
def k4 : Class := { plain "java/lang/Number" (some 0) with
  accessFlags := 1057
  interfaces := #[3]
  cf := some (fileOf pool4 8 #[] #[{ accessFlags := 1, nameIndex := 5, descriptorIndex := 6, attributes := #[] }] 1057 2 #[13] #[{ accessFlags := 26, nameIndex := 15, descriptorIndex := 16, attributes := #[] }])
  fields := #[{ name := "serialVersionUID", type := .long, accessFlags := 26, slot := 0, constantValue := 0 }]
  methods := #[k4m0]
  instanceTypes := #[]
  staticTypes := #[.long]
  resolved := Array.replicate 37 none
  statics := none }

def pool5 : Array CpInfo := pool [(1, .class_ 2), (0, u "java/lang/Comparable"), (0, .class_ 4), (0, u "java/lang/Object")] 7

/-- java/lang/Comparable -/
def k5 : Class := { plain "java/lang/Comparable" (some 0) with
  accessFlags := 1537
  interfaces := #[]
  cf := some (fileOf pool5 1 #[] #[] 1537 3 #[] #[])
  fields := #[]
  methods := #[]
  instanceTypes := #[]
  staticTypes := #[]
  resolved := Array.replicate 12 none
  statics := none }

def pool6 : Array CpInfo := pool [(1, .class_ 2), (0, u "java/lang/constant/Constable"), (0, .class_ 4), (0, u "java/lang/Object")] 6

/-- java/lang/constant/Constable -/
def k6 : Class := { plain "java/lang/constant/Constable" (some 0) with
  accessFlags := 1537
  interfaces := #[]
  cf := some (fileOf pool6 1 #[] #[] 1537 3 #[] #[])
  fields := #[]
  methods := #[]
  instanceTypes := #[]
  staticTypes := #[]
  resolved := Array.replicate 11 none
  statics := none }

def pool7 : Array CpInfo := pool [(1, .class_ 2), (0, u "java/lang/constant/ConstantDesc"), (0, .class_ 4), (0, u "java/lang/Object")] 32

/-- java/lang/constant/ConstantDesc -/
def k7 : Class := { plain "java/lang/constant/ConstantDesc" (some 0) with
  accessFlags := 1537
  interfaces := #[]
  cf := some (fileOf pool7 1 #[] #[] 1537 3 #[] #[])
  fields := #[]
  methods := #[]
  instanceTypes := #[]
  staticTypes := #[]
  resolved := Array.replicate 37 none
  statics := none }

def pool8 : Array CpInfo := pool [(1, .class_ 2), (0, u "java/lang/Integer"), (16, u "digits"), (0, u "[C"), (33, u "(I)I"), (12, u "<init>"), (6, u "stringSize"), (2, u "getChars"), (0, u "(II[B)I"), (4, .fieldref 1 84), (0, .nameAndType 85 86), (0, u "DigitOnes"), (0, u "[B"), (0, .fieldref 1 88), (0, .nameAndType 89 86), (0, u "DigitTens"), (10, .nameAndType 67 101), (0, u "()V"), (19, u "()I"), (65, u "valueOf"), (0, u "(I)Ljava/lang/Integer;"), (0, .class_ 190), (0, u "java/lang/Integer$IntegerCache"), (0, .fieldref 189 192), (0, .nameAndType 193 194), (0, u "high"), (0, u "I"), (0, .fieldref 189 196), (0, .nameAndType 197 198), (0, u "cache"), (0, u "[Ljava/lang/Integer;"), (0, .methodref 1 200), (0, .nameAndType 67 201), (0, u "(I)V"), (0, .methodref 203 100), (0, .class_ 204), (0, u "java/lang/Number"), (0, .fieldref 1 206), (0, .nameAndType 207 194), (0, u "value"), (5, u "intValue"), (88, u "TYPE"), (0, u "Ljava/lang/Class;"), (0, .class_ 305), (0, u "java/lang/Comparable"), (0, .class_ 307), (0, u "java/lang/constant/Constable"), (0, .class_ 309), (0, u "java/lang/constant/ConstantDesc"), (0, u "MIN_VALUE"), (1, u "MAX_VALUE"), (3, u "SIZE"), (1, u "BYTES"), (1, u "serialVersionUID"), (0, u "J")] 131

def k8c0 : Code := { maxStack := 4, maxLocals := 7, code := jdk_33_method_12_code, exceptionTable := #[], attributes := #[] }
def k8m0 : Method := { name := "getChars", desc := "(II[B)I", sig := { parameters := [.int, .int, (.array .byte)], returnType := some .int }, accessFlags := 8, code := some k8c0 }
def k8c1 : Code := { maxStack := 2, maxLocals := 4, code := jdk_33_method_13_code, exceptionTable := #[], attributes := #[] }
def k8m1 : Method := { name := "stringSize", desc := "(I)I", sig := { parameters := [.int], returnType := some .int }, accessFlags := 8, code := some k8c1 }
def k8c2 : Code := { maxStack := 3, maxLocals := 1, code := jdk_33_method_22_code, exceptionTable := #[], attributes := #[] }
def k8m2 : Method := { name := "valueOf", desc := "(I)Ljava/lang/Integer;", sig := { parameters := [.int], returnType := some (.object "java/lang/Integer") }, accessFlags := 9, code := some k8c2 }
def k8c3 : Code := { maxStack := 2, maxLocals := 2, code := jdk_33_method_23_code, exceptionTable := #[], attributes := #[] }
def k8m3 : Method := { name := "<init>", desc := "(I)V", sig := { parameters := [.int], returnType := none }, accessFlags := 1, code := some k8c3 }
def k8c4 : Code := { maxStack := 1, maxLocals := 1, code := jdk_33_method_27_code, exceptionTable := #[], attributes := #[] }
def k8m4 : Method := { name := "intValue", desc := "()I", sig := { parameters := [], returnType := some .int }, accessFlags := 1, code := some k8c4 }
/-- java/lang/Integer -/
def k8 : Class := { plain "java/lang/Integer" (some 4) with
  accessFlags := 49
  interfaces := #[5, 6, 7]
  cf := some (fileOf pool8 1 #[.nestMembers #[189]] #[{ accessFlags := 8, nameIndex := 77, descriptorIndex := 78, attributes := #[] }, { accessFlags := 8, nameIndex := 74, descriptorIndex := 54, attributes := #[] }, { accessFlags := 9, nameIndex := 187, descriptorIndex := 188, attributes := #[] }, { accessFlags := 1, nameIndex := 67, descriptorIndex := 201, attributes := #[] }, { accessFlags := 1, nameIndex := 213, descriptorIndex := 121, attributes := #[] }] 49 203 #[304, 306, 308] #[{ accessFlags := 25, nameIndex := 310, descriptorIndex := 194, attributes := #[] }, { accessFlags := 25, nameIndex := 312, descriptorIndex := 194, attributes := #[] }, { accessFlags := 25, nameIndex := 302, descriptorIndex := 303, attributes := #[] }, { accessFlags := 24, nameIndex := 19, descriptorIndex := 20, attributes := #[] }, { accessFlags := 24, nameIndex := 89, descriptorIndex := 86, attributes := #[] }, { accessFlags := 24, nameIndex := 85, descriptorIndex := 86, attributes := #[] }, { accessFlags := 18, nameIndex := 207, descriptorIndex := 194, attributes := #[] }, { accessFlags := 25, nameIndex := 316, descriptorIndex := 194, attributes := #[] }, { accessFlags := 25, nameIndex := 318, descriptorIndex := 194, attributes := #[] }, { accessFlags := 26, nameIndex := 320, descriptorIndex := 321, attributes := #[] }])
  fields := #[{ name := "MIN_VALUE", type := .int, accessFlags := 25, slot := 0, constantValue := 0 }, { name := "MAX_VALUE", type := .int, accessFlags := 25, slot := 1, constantValue := 0 }, { name := "TYPE", type := (.object "java/lang/Class"), accessFlags := 25, slot := 2, constantValue := 0 }, { name := "digits", type := (.array .char), accessFlags := 24, slot := 3, constantValue := 0 }, { name := "DigitTens", type := (.array .byte), accessFlags := 24, slot := 4, constantValue := 0 }, { name := "DigitOnes", type := (.array .byte), accessFlags := 24, slot := 5, constantValue := 0 }, { name := "value", type := .int, accessFlags := 18, slot := 0, constantValue := 0 }, { name := "SIZE", type := .int, accessFlags := 25, slot := 6, constantValue := 0 }, { name := "BYTES", type := .int, accessFlags := 25, slot := 7, constantValue := 0 }, { name := "serialVersionUID", type := .long, accessFlags := 26, slot := 8, constantValue := 0 }]
  methods := #[k8m0, k8m1, k8m2, k8m3, k8m4]
  instanceTypes := #[.int]
  staticTypes := #[.int, .int, (.object "java/lang/Class"), (.array .char), (.array .byte), (.array .byte), .int, .int, .long]
  resolved := Array.replicate 453 none
  statics := some 0 }

def pool9 : Array CpInfo := pool [(2, .class_ 4), (1, u "java/lang/Object"), (0, u "<init>"), (0, u "()V"), (0, .class_ 8), (0, u "java/lang/Integer"), (7, .class_ 18), (1, u "java/lang/Integer$IntegerCache"), (0, u "$assertionsDisabled"), (0, u "Z"), (26, u "high"), (0, u "I"), (8, u "archivedCache"), (0, u "[Ljava/lang/Integer;"), (12, u "cache"), (0, u "low")] 27

def k9m0 : Method := { name := "<init>", desc := "()V", sig := { parameters := [], returnType := none }, accessFlags := 2, code := none }
/-- java/lang/Integer$IntegerCache -/
def k9 : Class := { plain "java/lang/Integer$IntegerCache" (some 0) with
  accessFlags := 48
  interfaces := #[]
  cf := some (fileOf pool9 16 #[.nestHost 7] #[{ accessFlags := 2, nameIndex := 5, descriptorIndex := 6, attributes := #[] }] 48 2 #[] #[{ accessFlags := 24, nameIndex := 72, descriptorIndex := 48, attributes := #[] }, { accessFlags := 24, nameIndex := 47, descriptorIndex := 48, attributes := #[] }, { accessFlags := 24, nameIndex := 71, descriptorIndex := 58, attributes := #[] }, { accessFlags := 8, nameIndex := 57, descriptorIndex := 58, attributes := #[] }, { accessFlags := 4120, nameIndex := 19, descriptorIndex := 20, attributes := #[] }])
  fields := #[{ name := "low", type := .int, accessFlags := 24, slot := 0, constantValue := 0 }, { name := "high", type := .int, accessFlags := 24, slot := 1, constantValue := 0 }, { name := "cache", type := (.array (.object "java/lang/Integer")), accessFlags := 24, slot := 2, constantValue := 0 }, { name := "archivedCache", type := (.array (.object "java/lang/Integer")), accessFlags := 8, slot := 3, constantValue := 0 }, { name := "$assertionsDisabled", type := .boolean, accessFlags := 4120, slot := 4, constantValue := 0 }]
  methods := #[k9m0]
  instanceTypes := #[]
  staticTypes := #[.int, .int, (.array (.object "java/lang/Integer")), (.array (.object "java/lang/Integer")), .boolean]
  resolved := Array.replicate 100 none
  statics := some 1 }

def pool10 : Array CpInfo := pool [(1, .class_ 2), (0, u "java/lang/Appendable"), (0, .class_ 4), (0, u "java/lang/Object")] 9

/-- java/lang/Appendable -/
def k10 : Class := { plain "java/lang/Appendable" (some 0) with
  accessFlags := 1537
  interfaces := #[]
  cf := some (fileOf pool10 1 #[] #[] 1537 3 #[] #[])
  fields := #[]
  methods := #[]
  instanceTypes := #[]
  staticTypes := #[]
  resolved := Array.replicate 14 none
  statics := none }

def pool11 : Array CpInfo := pool [(2, .class_ 4), (1, u "java/lang/CharSequence"), (42, .class_ 48), (0, u "java/lang/CharSequence$1CodePointIterator"), (10, .class_ 60), (0, u "java/lang/CharSequence$1CharIterator"), (5, .class_ 67), (0, u "java/lang/Object")] 63

/-- java/lang/CharSequence -/
def k11 : Class := { plain "java/lang/CharSequence" (some 0) with
  accessFlags := 1537
  interfaces := #[]
  cf := some (fileOf pool11 2 #[.nestMembers #[47, 59]] #[] 1537 66 #[] #[])
  fields := #[]
  methods := #[]
  instanceTypes := #[]
  staticTypes := #[]
  resolved := Array.replicate 131 none
  statics := none }

def pool12 : Array CpInfo := pool [(1, .class_ 2), (0, u "java/lang/String"), (0, .methodref 4 5), (0, .class_ 6), (0, .nameAndType 7 8), (0, u "java/lang/Object"), (0, u "<init>"), (0, u "()V"), (1, .class_ 12), (1, u "java/lang/AbstractStringBuilder"), (0, u "EMPTYVALUE"), (0, u "[B"), (0, .fieldref 10 16), (0, .nameAndType 17 14), (0, u "value"), (0, .fieldref 1 19), (0, .nameAndType 20 21), (0, u "COMPACT_STRINGS"), (0, u "Z"), (0, .fieldref 10 23), (0, .nameAndType 24 25), (0, u "coder"), (0, u "B"), (6, .methodref 1 33), (0, .nameAndType 34 35), (0, u "length"), (0, u "()I"), (0, .class_ 37), (0, u "java/lang/Integer"), (1, .integer 2147483647), (0, .methodref 1 41), (0, .nameAndType 24 42), (0, u "()B"), (2, u "append"), (0, u "(Ljava/lang/String;)Ljava/lang/AbstractStringBuilder;"), (1, .class_ 49), (0, u "java/lang/CharSequence"), (19, u "(Ljava/lang/String;)V"), (5, u "maybeLatin1"), (3, .fieldref 10 80), (0, .nameAndType 81 82), (0, u "count"), (0, u "I"), (0, .methodref 10 84), (0, .nameAndType 85 86), (0, u "isLatin1"), (0, u "()Z"), (13, .methodref 10 101), (0, .nameAndType 102 103), (0, u "ensureCapacityInternal"), (0, u "(I)V"), (0, .methodref 10 105), (0, .nameAndType 106 107), (0, u "newCapacity"), (0, u "(I)I"), (0, .methodref 109 110), (0, .class_ 111), (0, .nameAndType 112 113), (0, u "java/util/Arrays"), (0, u "copyOf"), (0, u "([BI)[B"), (0, .methodref 115 116), (0, .class_ 117), (0, .nameAndType 118 119), (0, u "jdk/internal/util/ArraysSupport"), (0, u "newLength"), (0, u "(III)I"), (68, u "getChars"), (19, .methodref 10 209), (0, .nameAndType 210 211), (0, u "putStringAt"), (0, u "(ILjava/lang/String;)V"), (5, u "inflateIfNeededFor"), (2, .nameAndType 221 222), (0, u "getBytes"), (0, u "([BIB)V"), (22, .methodref 36 246), (0, .nameAndType 247 107), (0, u "stringSize"), (0, .methodref 36 249), (0, .nameAndType 188 250), (0, u "(II[B)I"), (146, .methodref 10 398), (0, .nameAndType 217 69), (0, .methodref 1 220), (3, u "()[B"), (40, .class_ 445), (0, u "java/lang/Appendable"), (65, u "(I)Ljava/lang/AbstractStringBuilder;"), (40, u "getValue")] 56

def k12m0 : Method := { name := "<init>", desc := "()V", sig := { parameters := [], returnType := none }, accessFlags := 0, code := none }
def k12c1 : Code := { maxStack := 2, maxLocals := 2, code := jdk_68_method_2_code, exceptionTable := #[], attributes := #[] }
def k12m1 : Method := { name := "<init>", desc := "(I)V", sig := { parameters := [.int], returnType := none }, accessFlags := 0, code := some k12c1 }
def k12c2 : Code := { maxStack := 1, maxLocals := 1, code := jdk_68_method_6_code, exceptionTable := #[], attributes := #[] }
def k12m2 : Method := { name := "length", desc := "()I", sig := { parameters := [], returnType := some .int }, accessFlags := 1, code := some k12c2 }
def k12c3 : Code := { maxStack := 4, maxLocals := 3, code := jdk_68_method_9_code, exceptionTable := #[], attributes := #[] }
def k12m3 : Method := { name := "ensureCapacityInternal", desc := "(I)V", sig := { parameters := [.int], returnType := none }, accessFlags := 2, code := some k12c3 }
def k12c4 : Code := { maxStack := 5, maxLocals := 6, code := jdk_68_method_10_code, exceptionTable := #[], attributes := #[] }
def k12m4 : Method := { name := "newCapacity", desc := "(I)I", sig := { parameters := [.int], returnType := some .int }, accessFlags := 2, code := some k12c4 }
def k12c5 : Code := { maxStack := 3, maxLocals := 3, code := jdk_68_method_22_code, exceptionTable := #[], attributes := #[] }
def k12m5 : Method := { name := "append", desc := "(Ljava/lang/String;)Ljava/lang/AbstractStringBuilder;", sig := { parameters := [(.object "java/lang/String")], returnType := some (.object "java/lang/AbstractStringBuilder") }, accessFlags := 1, code := some k12c5 }
def k12c6 : Code := { maxStack := 4, maxLocals := 4, code := jdk_68_method_32_code, exceptionTable := #[], attributes := #[] }
def k12m6 : Method := { name := "append", desc := "(I)Ljava/lang/AbstractStringBuilder;", sig := { parameters := [.int], returnType := some (.object "java/lang/AbstractStringBuilder") }, accessFlags := 1, code := some k12c6 }
def k12c7 : Code := { maxStack := 1, maxLocals := 1, code := jdk_68_method_64_code, exceptionTable := #[], attributes := #[] }
def k12m7 : Method := { name := "getValue", desc := "()[B", sig := { parameters := [], returnType := some (.array .byte) }, accessFlags := 16, code := some k12c7 }
def k12c8 : Code := { maxStack := 1, maxLocals := 1, code := jdk_68_method_68_code, exceptionTable := #[], attributes := #[] }
def k12m8 : Method := { name := "isLatin1", desc := "()Z", sig := { parameters := [], returnType := some .boolean }, accessFlags := 16, code := some k12c8 }
def k12c9 : Code := { maxStack := 2, maxLocals := 2, code := jdk_68_method_71_code, exceptionTable := #[], attributes := #[] }
def k12m9 : Method := { name := "inflateIfNeededFor", desc := "(Ljava/lang/String;)V", sig := { parameters := [(.object "java/lang/String")], returnType := none }, accessFlags := 2, code := some k12c9 }
def k12c10 : Code := { maxStack := 4, maxLocals := 3, code := jdk_68_method_73_code, exceptionTable := #[], attributes := #[] }
def k12m10 : Method := { name := "putStringAt", desc := "(ILjava/lang/String;)V", sig := { parameters := [.int, (.object "java/lang/String")], returnType := none }, accessFlags := 2, code := some k12c10 }
/-- java/lang/AbstractStringBuilder -/
def k12 : Class := { plain "java/lang/AbstractStringBuilder" (some 0) with
  accessFlags := 1056
  interfaces := #[10, 11]
  cf := some (fileOf pool12 10 #[] #[{ accessFlags := 0, nameIndex := 7, descriptorIndex := 8, attributes := #[] }, { accessFlags := 0, nameIndex := 7, descriptorIndex := 103, attributes := #[] }, { accessFlags := 1, nameIndex := 34, descriptorIndex := 35, attributes := #[] }, { accessFlags := 2, nameIndex := 102, descriptorIndex := 103, attributes := #[] }, { accessFlags := 2, nameIndex := 106, descriptorIndex := 107, attributes := #[] }, { accessFlags := 1, nameIndex := 45, descriptorIndex := 46, attributes := #[] }, { accessFlags := 1, nameIndex := 45, descriptorIndex := 511, attributes := #[] }, { accessFlags := 16, nameIndex := 552, descriptorIndex := 403, attributes := #[] }, { accessFlags := 16, nameIndex := 85, descriptorIndex := 86, attributes := #[] }, { accessFlags := 2, nameIndex := 217, descriptorIndex := 69, attributes := #[] }, { accessFlags := 2, nameIndex := 210, descriptorIndex := 211, attributes := #[] }] 1056 4 #[444, 48] #[{ accessFlags := 0, nameIndex := 17, descriptorIndex := 14, attributes := #[] }, { accessFlags := 0, nameIndex := 24, descriptorIndex := 25, attributes := #[] }, { accessFlags := 0, nameIndex := 75, descriptorIndex := 21, attributes := #[] }, { accessFlags := 0, nameIndex := 81, descriptorIndex := 82, attributes := #[] }, { accessFlags := 26, nameIndex := 13, descriptorIndex := 14, attributes := #[] }])
  fields := #[{ name := "value", type := (.array .byte), accessFlags := 0, slot := 0, constantValue := 0 }, { name := "coder", type := .byte, accessFlags := 0, slot := 1, constantValue := 0 }, { name := "maybeLatin1", type := .boolean, accessFlags := 0, slot := 2, constantValue := 0 }, { name := "count", type := .int, accessFlags := 0, slot := 3, constantValue := 0 }, { name := "EMPTYVALUE", type := (.array .byte), accessFlags := 26, slot := 0, constantValue := 0 }]
  methods := #[k12m0, k12m1, k12m2, k12m3, k12m4, k12m5, k12m6, k12m7, k12m8, k12m9, k12m10]
  instanceTypes := #[(.array .byte), .byte, .boolean, .int]
  staticTypes := #[(.array .byte)]
  resolved := Array.replicate 609 none
  statics := none }

def pool13 : Array CpInfo := pool [(1, .methodref 2 3), (0, .class_ 4), (0, .nameAndType 5 6), (0, u "java/lang/AbstractStringBuilder"), (0, u "<init>"), (0, u "(I)V"), (11, .class_ 20), (1, u "java/lang/String"), (3, .class_ 26), (1, u "java/lang/StringBuilder"), (0, u "append"), (0, u "(Ljava/lang/String;)Ljava/lang/StringBuilder;"), (0, .methodref 2 30), (0, .nameAndType 27 31), (0, u "(Ljava/lang/String;)Ljava/lang/AbstractStringBuilder;"), (21, .methodref 2 54), (0, .nameAndType 27 55), (0, u "(I)Ljava/lang/AbstractStringBuilder;"), (81, .methodref 18 138), (0, .nameAndType 5 139), (0, u "(Ljava/lang/StringBuilder;)V"), (5, u "()V"), (10, u "()I"), (111, u "(I)Ljava/lang/StringBuilder;"), (74, .methodref 2 344), (0, .nameAndType 345 156), (0, u "length"), (3, .class_ 350), (0, u "java/lang/Appendable"), (0, .class_ 352), (0, u "java/io/Serializable"), (0, .class_ 354), (0, u "java/lang/Comparable"), (0, .class_ 356), (0, u "java/lang/CharSequence"), (0, u "serialVersionUID"), (0, u "J"), (40, u "toString"), (0, u "()Ljava/lang/String;")] 21

def k13c0 : Code := { maxStack := 2, maxLocals := 1, code := jdk_67_method_1_code, exceptionTable := #[], attributes := #[] }
def k13m0 : Method := { name := "<init>", desc := "()V", sig := { parameters := [], returnType := none }, accessFlags := 1, code := some k13c0 }
def k13c1 : Code := { maxStack := 2, maxLocals := 2, code := jdk_67_method_7_code, exceptionTable := #[], attributes := #[] }
def k13m1 : Method := { name := "append", desc := "(Ljava/lang/String;)Ljava/lang/StringBuilder;", sig := { parameters := [(.object "java/lang/String")], returnType := some (.object "java/lang/StringBuilder") }, accessFlags := 1, code := some k13c1 }
def k13c2 : Code := { maxStack := 2, maxLocals := 2, code := jdk_67_method_15_code, exceptionTable := #[], attributes := #[] }
def k13m2 : Method := { name := "append", desc := "(I)Ljava/lang/StringBuilder;", sig := { parameters := [.int], returnType := some (.object "java/lang/StringBuilder") }, accessFlags := 1, code := some k13c2 }
def k13c3 : Code := { maxStack := 3, maxLocals := 1, code := jdk_67_method_42_code, exceptionTable := #[], attributes := #[] }
def k13m3 : Method := { name := "toString", desc := "()Ljava/lang/String;", sig := { parameters := [], returnType := some (.object "java/lang/String") }, accessFlags := 1, code := some k13c3 }
def k13c4 : Code := { maxStack := 1, maxLocals := 1, code := jdk_67_method_93_code, exceptionTable := #[], attributes := #[] }
def k13m4 : Method := { name := "length", desc := "()I", sig := { parameters := [], returnType := some .int }, accessFlags := 4161, code := some k13c4 }
/-- java/lang/StringBuilder -/
def k13 : Class := { plain "java/lang/StringBuilder" (some 12) with
  accessFlags := 49
  interfaces := #[10, 3, 5, 11]
  cf := some (fileOf pool13 24 #[] #[{ accessFlags := 1, nameIndex := 5, descriptorIndex := 145, attributes := #[] }, { accessFlags := 1, nameIndex := 27, descriptorIndex := 28, attributes := #[] }, { accessFlags := 1, nameIndex := 27, descriptorIndex := 268, attributes := #[] }, { accessFlags := 1, nameIndex := 399, descriptorIndex := 400, attributes := #[] }, { accessFlags := 4161, nameIndex := 345, descriptorIndex := 156, attributes := #[] }] 49 2 #[349, 351, 353, 355] #[{ accessFlags := 24, nameIndex := 357, descriptorIndex := 358, attributes := #[] }])
  fields := #[{ name := "serialVersionUID", type := .long, accessFlags := 24, slot := 0, constantValue := 0 }]
  methods := #[k13m0, k13m1, k13m2, k13m3, k13m4]
  instanceTypes := #[(.array .byte), .byte, .boolean, .int]
  staticTypes := #[.long]
  resolved := Array.replicate 422 none
  statics := none }

def pool14 : Array CpInfo := pool [(1, .methodref 2 3), (0, .class_ 4), (0, .nameAndType 5 6), (0, u "java/lang/Object"), (0, u "<init>"), (0, u "()V"), (2, .fieldref 10 11), (0, .class_ 12), (0, .nameAndType 13 14), (0, u "java/lang/String"), (0, u "value"), (0, u "[B"), (0, .fieldref 10 16), (0, .nameAndType 17 18), (0, u "coder"), (0, u "B"), (2, u "hash"), (0, u "I"), (2, u "hashIsZero"), (0, u "Z"), (0, .methodref 10 28), (0, .nameAndType 5 29), (0, u "([CIILjava/lang/Void;)V"), (8, .fieldref 10 39), (0, .nameAndType 40 26), (0, u "COMPACT_STRINGS"), (1, .class_ 44), (1, u "java/lang/StringUTF16"), (0, u "compress"), (1, .methodref 42 48), (0, .nameAndType 49 50), (0, u "coderFromArrayLen"), (0, u "([BI)B"), (3, .methodref 55 56), (0, .class_ 57), (0, .nameAndType 58 59), (0, u "java/util/Arrays"), (0, u "copyOfRange"), (0, u "([BII)[B"), (47, .class_ 109), (1, u "java/lang/StringLatin1"), (32, u "()Z"), (34, .methodref 42 178), (0, .nameAndType 45 179), (0, u "([CII)[B"), (13, .class_ 195), (1, u "java/lang/System"), (16, .methodref 193 213), (0, .nameAndType 214 215), (0, u "arraycopy"), (0, u "(Ljava/lang/Object;ILjava/lang/Object;II)V"), (118, u "()I"), (0, .methodref 10 336), (0, .nameAndType 17 337), (0, u "()B"), (2, u "()[B"), (148, .methodref 10 490), (0, .nameAndType 5 491), (0, u "(Ljava/lang/AbstractStringBuilder;Ljava/lang/Void;)V"), (1, .nameAndType 494 142), (0, u "isLatin1"), (11, .nameAndType 507 334), (0, u "length"), (24, u "getBytes"), (8, .methodref 107 542), (0, .nameAndType 543 544), (0, u "equals"), (0, u "([B[B)Z"), (4, .methodref 550 506), (0, .class_ 551), (0, u "java/lang/AbstractStringBuilder"), (0, .methodref 550 553), (0, .nameAndType 554 340), (0, u "getValue"), (18, u "(Ljava/lang/Object;)Z"), (1, .class_ 576), (0, u "java/lang/CharSequence"), (22, u "CASE_INSENSITIVE_ORDER"), (0, u "Ljava/util/Comparator;"), (91, u "isEmpty"), (128, u "([BIB)V"), (188, u "([C)V"), (36, .methodref 550 493), (53, u "serialPersistentFields"), (0, u "[Ljava/io/ObjectStreamField;"), (0, .class_ 1104), (0, u "java/lang/String$CaseInsensitiveComparator"), (1, .class_ 1107), (0, u "java/io/Serializable"), (0, .class_ 1109), (0, u "java/lang/Comparable"), (0, .class_ 1111), (0, u "java/lang/constant/Constable"), (0, .class_ 1113), (0, u "java/lang/constant/ConstantDesc"), (2, u "serialVersionUID"), (0, u "J"), (3, u "REPL"), (0, u "C"), (2, u "LATIN1"), (1, u "UTF16"), (105, u "(Ljava/lang/StringBuilder;)V")] 217

def k14m0 : Method := { name := "<init>", desc := "()V", sig := { parameters := [], returnType := none }, accessFlags := 1, code := none }
def k14c1 : Code := { maxStack := 5, maxLocals := 2, code := jdk_42_method_3_code, exceptionTable := #[], attributes := #[] }
def k14m1 : Method := { name := "<init>", desc := "([C)V", sig := { parameters := [(.array .char)], returnType := none }, accessFlags := 1, code := some k14c1 }
def k14c2 : Code := { maxStack := 3, maxLocals := 2, code := jdk_42_method_53_code, exceptionTable := #[], attributes := #[] }
def k14m2 : Method := { name := "<init>", desc := "(Ljava/lang/StringBuilder;)V", sig := { parameters := [(.object "java/lang/StringBuilder")], returnType := none }, accessFlags := 1, code := some k14c2 }
def k14c3 : Code := { maxStack := 2, maxLocals := 1, code := jdk_42_method_54_code, exceptionTable := #[], attributes := #[] }
def k14m3 : Method := { name := "length", desc := "()I", sig := { parameters := [], returnType := some .int }, accessFlags := 1, code := some k14c3 }
def k14c4 : Code := { maxStack := 1, maxLocals := 1, code := jdk_42_method_55_code, exceptionTable := #[], attributes := #[] }
def k14m4 : Method := { name := "isEmpty", desc := "()Z", sig := { parameters := [], returnType := some .boolean }, accessFlags := 1, code := some k14c4 }
def k14c5 : Code := { maxStack := 2, maxLocals := 3, code := jdk_42_method_66_code, exceptionTable := #[], attributes := #[] }
def k14m5 : Method := { name := "equals", desc := "(Ljava/lang/Object;)Z", sig := { parameters := [(.object "java/lang/Object")], returnType := some .boolean }, accessFlags := 1, code := some k14c5 }
def k14c6 : Code := { maxStack := 5, maxLocals := 4, code := jdk_42_method_147_code, exceptionTable := #[], attributes := #[] }
def k14m6 : Method := { name := "getBytes", desc := "([BIB)V", sig := { parameters := [(.array .byte), .int, .byte], returnType := none }, accessFlags := 0, code := some k14c6 }
def k14c7 : Code := { maxStack := 4, maxLocals := 6, code := jdk_42_method_149_code, exceptionTable := #[], attributes := #[] }
def k14m7 : Method := { name := "<init>", desc := "([CIILjava/lang/Void;)V", sig := { parameters := [(.array .char), .int, .int, (.object "java/lang/Void")], returnType := none }, accessFlags := 2, code := some k14c7 }
def k14c8 : Code := { maxStack := 5, maxLocals := 5, code := jdk_42_method_150_code, exceptionTable := #[], attributes := #[] }
def k14m8 : Method := { name := "<init>", desc := "(Ljava/lang/AbstractStringBuilder;Ljava/lang/Void;)V", sig := { parameters := [(.object "java/lang/AbstractStringBuilder"), (.object "java/lang/Void")], returnType := none }, accessFlags := 0, code := some k14c8 }
def k14c9 : Code := { maxStack := 1, maxLocals := 1, code := jdk_42_method_152_code, exceptionTable := #[], attributes := #[] }
def k14m9 : Method := { name := "coder", desc := "()B", sig := { parameters := [], returnType := some .byte }, accessFlags := 0, code := some k14c9 }
/-- java/lang/String -/
def k14 : Class := { plain "java/lang/String" (some 0) with
  accessFlags := 49
  interfaces := #[3, 5, 11, 6, 7]
  cf := some (fileOf pool14 10 #[.nestMembers #[1103]] #[{ accessFlags := 1, nameIndex := 5, descriptorIndex := 6, attributes := #[] }, { accessFlags := 1, nameIndex := 5, descriptorIndex := 1010, attributes := #[] }, { accessFlags := 1, nameIndex := 5, descriptorIndex := 1233, attributes := #[] }, { accessFlags := 1, nameIndex := 507, descriptorIndex := 334, attributes := #[] }, { accessFlags := 1, nameIndex := 692, descriptorIndex := 142, attributes := #[] }, { accessFlags := 1, nameIndex := 543, descriptorIndex := 573, attributes := #[] }, { accessFlags := 0, nameIndex := 532, descriptorIndex := 821, attributes := #[] }, { accessFlags := 2, nameIndex := 5, descriptorIndex := 29, attributes := #[] }, { accessFlags := 0, nameIndex := 5, descriptorIndex := 491, attributes := #[] }, { accessFlags := 0, nameIndex := 17, descriptorIndex := 337, attributes := #[] }] 49 2 #[1106, 1108, 575, 1110, 1112] #[{ accessFlags := 18, nameIndex := 13, descriptorIndex := 14, attributes := #[] }, { accessFlags := 18, nameIndex := 17, descriptorIndex := 18, attributes := #[] }, { accessFlags := 2, nameIndex := 21, descriptorIndex := 22, attributes := #[] }, { accessFlags := 2, nameIndex := 25, descriptorIndex := 26, attributes := #[] }, { accessFlags := 26, nameIndex := 1116, descriptorIndex := 1117, attributes := #[] }, { accessFlags := 24, nameIndex := 40, descriptorIndex := 26, attributes := #[] }, { accessFlags := 26, nameIndex := 1101, descriptorIndex := 1102, attributes := #[] }, { accessFlags := 26, nameIndex := 1121, descriptorIndex := 1122, attributes := #[] }, { accessFlags := 25, nameIndex := 599, descriptorIndex := 600, attributes := #[] }, { accessFlags := 24, nameIndex := 1125, descriptorIndex := 18, attributes := #[] }, { accessFlags := 24, nameIndex := 1127, descriptorIndex := 18, attributes := #[] }])
  fields := #[{ name := "value", type := (.array .byte), accessFlags := 18, slot := 0, constantValue := 0 }, { name := "coder", type := .byte, accessFlags := 18, slot := 1, constantValue := 0 }, { name := "hash", type := .int, accessFlags := 2, slot := 2, constantValue := 0 }, { name := "hashIsZero", type := .boolean, accessFlags := 2, slot := 3, constantValue := 0 }, { name := "serialVersionUID", type := .long, accessFlags := 26, slot := 0, constantValue := 0 }, { name := "COMPACT_STRINGS", type := .boolean, accessFlags := 24, slot := 1, constantValue := 0 }, { name := "serialPersistentFields", type := (.array (.object "java/io/ObjectStreamField")), accessFlags := 26, slot := 2, constantValue := 0 }, { name := "REPL", type := .char, accessFlags := 26, slot := 3, constantValue := 0 }, { name := "CASE_INSENSITIVE_ORDER", type := (.object "java/util/Comparator"), accessFlags := 25, slot := 4, constantValue := 0 }, { name := "LATIN1", type := .byte, accessFlags := 24, slot := 5, constantValue := 0 }, { name := "UTF16", type := .byte, accessFlags := 24, slot := 6, constantValue := 0 }]
  methods := #[k14m0, k14m1, k14m2, k14m3, k14m4, k14m5, k14m6, k14m7, k14m8, k14m9]
  instanceTypes := #[(.array .byte), .byte, .int, .boolean]
  staticTypes := #[.long, .boolean, (.array (.object "java/io/ObjectStreamField")), .char, (.object "java/util/Comparator"), .byte, .byte]
  resolved := Array.replicate 1451 none
  statics := some 2 }

def pool15 : Array CpInfo := pool [(9, u "<init>"), (6, .class_ 18), (1, u "java/lang/Object"), (0, u "()V"), (1, .class_ 23), (1, u "jdk/internal/util/ArraysSupport"), (0, u "LOG2_ARRAY_LONG_INDEX_SCALE"), (0, u "I"), (2, u "U"), (0, u "Ljdk/internal/misc/Unsafe;"), (8, u "BIG_ENDIAN"), (0, u "Z"), (8, u "LOG2_BYTE_BIT_SIZE"), (4, u "LOG2_ARRAY_INT_INDEX_SCALE"), (54, u "JLA"), (0, u "Ljdk/internal/access/JavaLangAccess;"), (11, u "LOG2_ARRAY_BOOLEAN_INDEX_SCALE"), (9, u "LOG2_ARRAY_BYTE_INDEX_SCALE"), (5, u "LOG2_ARRAY_CHAR_INDEX_SCALE"), (5, u "LOG2_ARRAY_SHORT_INDEX_SCALE"), (18, u "LOG2_ARRAY_FLOAT_INDEX_SCALE"), (24, u "LOG2_ARRAY_DOUBLE_INDEX_SCALE"), (6, .methodref 195 196), (0, .class_ 197), (0, .nameAndType 198 199), (0, u "java/lang/Math"), (0, u "max"), (0, u "(II)I"), (0, .integer 2147483639), (76, u "T_BOOLEAN"), (2, u "T_CHAR"), (1, u "T_FLOAT"), (1, u "T_DOUBLE"), (1, u "T_BYTE"), (1, u "T_SHORT"), (1, u "T_INT"), (1, u "T_LONG"), (1, u "SOFT_MAX_ARRAY_LENGTH"), (56, u "newLength"), (0, u "(III)I")] 25

def k15m0 : Method := { name := "<init>", desc := "()V", sig := { parameters := [], returnType := none }, accessFlags := 2, code := none }
def k15c1 : Code := { maxStack := 3, maxLocals := 4, code := jdk_48_method_27_code, exceptionTable := #[], attributes := #[] }
def k15m1 : Method := { name := "newLength", desc := "(III)I", sig := { parameters := [.int, .int, .int], returnType := some .int }, accessFlags := 9, code := some k15c1 }
/-- jdk/internal/util/ArraysSupport -/
def k15 : Class := { plain "jdk/internal/util/ArraysSupport" (some 0) with
  accessFlags := 33
  interfaces := #[]
  cf := some (fileOf pool15 21 #[] #[{ accessFlags := 2, nameIndex := 9, descriptorIndex := 19, attributes := #[] }, { accessFlags := 9, nameIndex := 351, descriptorIndex := 352, attributes := #[] }] 33 16 #[] #[{ accessFlags := 24, nameIndex := 28, descriptorIndex := 29, attributes := #[] }, { accessFlags := 26, nameIndex := 38, descriptorIndex := 39, attributes := #[] }, { accessFlags := 25, nameIndex := 121, descriptorIndex := 25, attributes := #[] }, { accessFlags := 25, nameIndex := 131, descriptorIndex := 25, attributes := #[] }, { accessFlags := 25, nameIndex := 137, descriptorIndex := 25, attributes := #[] }, { accessFlags := 25, nameIndex := 143, descriptorIndex := 25, attributes := #[] }, { accessFlags := 25, nameIndex := 53, descriptorIndex := 25, attributes := #[] }, { accessFlags := 25, nameIndex := 24, descriptorIndex := 25, attributes := #[] }, { accessFlags := 25, nameIndex := 162, descriptorIndex := 25, attributes := #[] }, { accessFlags := 25, nameIndex := 187, descriptorIndex := 25, attributes := #[] }, { accessFlags := 26, nameIndex := 48, descriptorIndex := 25, attributes := #[] }, { accessFlags := 25, nameIndex := 277, descriptorIndex := 25, attributes := #[] }, { accessFlags := 25, nameIndex := 280, descriptorIndex := 25, attributes := #[] }, { accessFlags := 25, nameIndex := 282, descriptorIndex := 25, attributes := #[] }, { accessFlags := 25, nameIndex := 284, descriptorIndex := 25, attributes := #[] }, { accessFlags := 25, nameIndex := 286, descriptorIndex := 25, attributes := #[] }, { accessFlags := 25, nameIndex := 288, descriptorIndex := 25, attributes := #[] }, { accessFlags := 25, nameIndex := 290, descriptorIndex := 25, attributes := #[] }, { accessFlags := 25, nameIndex := 292, descriptorIndex := 25, attributes := #[] }, { accessFlags := 26, nameIndex := 108, descriptorIndex := 109, attributes := #[] }, { accessFlags := 25, nameIndex := 294, descriptorIndex := 25, attributes := #[] }])
  fields := #[{ name := "U", type := (.object "jdk/internal/misc/Unsafe"), accessFlags := 24, slot := 0, constantValue := 0 }, { name := "BIG_ENDIAN", type := .boolean, accessFlags := 26, slot := 1, constantValue := 0 }, { name := "LOG2_ARRAY_BOOLEAN_INDEX_SCALE", type := .int, accessFlags := 25, slot := 2, constantValue := 0 }, { name := "LOG2_ARRAY_BYTE_INDEX_SCALE", type := .int, accessFlags := 25, slot := 3, constantValue := 0 }, { name := "LOG2_ARRAY_CHAR_INDEX_SCALE", type := .int, accessFlags := 25, slot := 4, constantValue := 0 }, { name := "LOG2_ARRAY_SHORT_INDEX_SCALE", type := .int, accessFlags := 25, slot := 5, constantValue := 0 }, { name := "LOG2_ARRAY_INT_INDEX_SCALE", type := .int, accessFlags := 25, slot := 6, constantValue := 0 }, { name := "LOG2_ARRAY_LONG_INDEX_SCALE", type := .int, accessFlags := 25, slot := 7, constantValue := 0 }, { name := "LOG2_ARRAY_FLOAT_INDEX_SCALE", type := .int, accessFlags := 25, slot := 8, constantValue := 0 }, { name := "LOG2_ARRAY_DOUBLE_INDEX_SCALE", type := .int, accessFlags := 25, slot := 9, constantValue := 0 }, { name := "LOG2_BYTE_BIT_SIZE", type := .int, accessFlags := 26, slot := 10, constantValue := 0 }, { name := "T_BOOLEAN", type := .int, accessFlags := 25, slot := 11, constantValue := 0 }, { name := "T_CHAR", type := .int, accessFlags := 25, slot := 12, constantValue := 0 }, { name := "T_FLOAT", type := .int, accessFlags := 25, slot := 13, constantValue := 0 }, { name := "T_DOUBLE", type := .int, accessFlags := 25, slot := 14, constantValue := 0 }, { name := "T_BYTE", type := .int, accessFlags := 25, slot := 15, constantValue := 0 }, { name := "T_SHORT", type := .int, accessFlags := 25, slot := 16, constantValue := 0 }, { name := "T_INT", type := .int, accessFlags := 25, slot := 17, constantValue := 0 }, { name := "T_LONG", type := .int, accessFlags := 25, slot := 18, constantValue := 0 }, { name := "JLA", type := (.object "jdk/internal/access/JavaLangAccess"), accessFlags := 26, slot := 19, constantValue := 0 }, { name := "SOFT_MAX_ARRAY_LENGTH", type := .int, accessFlags := 25, slot := 20, constantValue := 0 }]
  methods := #[k15m0, k15m1]
  instanceTypes := #[]
  staticTypes := #[(.object "jdk/internal/misc/Unsafe"), .boolean, .int, .int, .int, .int, .int, .int, .int, .int, .int, .int, .int, .int, .int, .int, .int, .int, .int, (.object "jdk/internal/access/JavaLangAccess"), .int]
  resolved := Array.replicate 378 none
  statics := none }

def pool16 : Array CpInfo := pool [(1, .class_ 2), (0, u "java/lang/Math"), (1, .class_ 6), (1, u "java/lang/Object"), (0, u "<init>"), (0, u "()V"), (89, .class_ 100), (1, u "java/lang/Math$RandomNumberGeneratorHolder"), (71, u "negativeZeroFloatBits"), (0, u "J"), (2, u "negativeZeroDoubleBits"), (21, u "max"), (2, u "min"), (43, u "$assertionsDisabled"), (0, u "Z"), (88, u "(II)I"), (2, u "twoToTheDoubleScaleDown"), (0, u "D"), (4, u "twoToTheDoubleScaleUp"), (9, u "E"), (3, u "PI"), (2, u "TAU"), (2, u "DEGREES_TO_RADIANS"), (0, u "RADIANS_TO_DEGREES")] 94

def k16m0 : Method := { name := "<init>", desc := "()V", sig := { parameters := [], returnType := none }, accessFlags := 2, code := none }
def k16c1 : Code := { maxStack := 2, maxLocals := 2, code := jdk_29_method_65_code, exceptionTable := #[], attributes := #[] }
def k16m1 : Method := { name := "max", desc := "(II)I", sig := { parameters := [.int, .int], returnType := some .int }, accessFlags := 9, code := some k16c1 }
def k16c2 : Code := { maxStack := 2, maxLocals := 2, code := jdk_29_method_69_code, exceptionTable := #[], attributes := #[] }
def k16m2 : Method := { name := "min", desc := "(II)I", sig := { parameters := [.int, .int], returnType := some .int }, accessFlags := 9, code := some k16c2 }
/-- java/lang/Math -/
def k16 : Class := { plain "java/lang/Math" (some 0) with
  accessFlags := 49
  interfaces := #[]
  cf := some (fileOf pool16 1 #[.nestMembers #[98]] #[{ accessFlags := 2, nameIndex := 7, descriptorIndex := 8, attributes := #[] }, { accessFlags := 9, nameIndex := 198, descriptorIndex := 335, attributes := #[] }, { accessFlags := 9, nameIndex := 201, descriptorIndex := 335, attributes := #[] }] 49 4 #[] #[{ accessFlags := 25, nameIndex := 354, descriptorIndex := 339, attributes := #[] }, { accessFlags := 25, nameIndex := 358, descriptorIndex := 339, attributes := #[] }, { accessFlags := 25, nameIndex := 361, descriptorIndex := 339, attributes := #[] }, { accessFlags := 26, nameIndex := 364, descriptorIndex := 339, attributes := #[] }, { accessFlags := 26, nameIndex := 365, descriptorIndex := 339, attributes := #[] }, { accessFlags := 26, nameIndex := 172, descriptorIndex := 173, attributes := #[] }, { accessFlags := 26, nameIndex := 176, descriptorIndex := 173, attributes := #[] }, { accessFlags := 8, nameIndex := 344, descriptorIndex := 339, attributes := #[] }, { accessFlags := 8, nameIndex := 338, descriptorIndex := 339, attributes := #[] }, { accessFlags := 4120, nameIndex := 245, descriptorIndex := 246, attributes := #[] }])
  fields := #[{ name := "E", type := .double, accessFlags := 25, slot := 0, constantValue := 0 }, { name := "PI", type := .double, accessFlags := 25, slot := 1, constantValue := 0 }, { name := "TAU", type := .double, accessFlags := 25, slot := 2, constantValue := 0 }, { name := "DEGREES_TO_RADIANS", type := .double, accessFlags := 26, slot := 3, constantValue := 0 }, { name := "RADIANS_TO_DEGREES", type := .double, accessFlags := 26, slot := 4, constantValue := 0 }, { name := "negativeZeroFloatBits", type := .long, accessFlags := 26, slot := 5, constantValue := 0 }, { name := "negativeZeroDoubleBits", type := .long, accessFlags := 26, slot := 6, constantValue := 0 }, { name := "twoToTheDoubleScaleUp", type := .double, accessFlags := 8, slot := 7, constantValue := 0 }, { name := "twoToTheDoubleScaleDown", type := .double, accessFlags := 8, slot := 8, constantValue := 0 }, { name := "$assertionsDisabled", type := .boolean, accessFlags := 4120, slot := 9, constantValue := 0 }]
  methods := #[k16m0, k16m1, k16m2]
  instanceTypes := #[]
  staticTypes := #[.double, .double, .double, .double, .double, .long, .long, .double, .double, .boolean]
  resolved := Array.replicate 460 none
  statics := none }

def pool17 : Array CpInfo := pool [(2, .class_ 4), (1, u "java/lang/Object"), (0, u "<init>"), (0, u "()V"), (7, .class_ 16), (1, u "java/util/Arrays"), (57, .class_ 76), (1, u "java/util/Arrays$NaturalOrder"), (36, .class_ 115), (1, u "java/util/Arrays$LegacyMergeSort"), (1, u "Z"), (21, u "copyOfRange"), (10, .methodref 151 152), (0, .class_ 153), (0, .nameAndType 154 155), (0, u "java/lang/System"), (0, u "arraycopy"), (0, u "(Ljava/lang/Object;ILjava/lang/Object;II)V"), (146, u "copyOf"), (1, .methodref 305 306), (0, .class_ 307), (0, .nameAndType 308 309), (0, u "java/lang/Math"), (0, u "min"), (0, u "(II)I"), (29, .methodref 14 340), (0, .nameAndType 341 342), (0, u "copyOfRangeByte"), (0, u "([BII)[B"), (0, .methodref 14 344), (0, .nameAndType 345 346), (0, u "checkLength"), (0, u "(II)V"), (28, .class_ 376), (0, u "java/util/Arrays$ArrayList"), (68, u "$assertionsDisabled"), (269, u "MIN_ARRAY_SORT_GRAN"), (0, u "I"), (2, u "INSERTIONSORT_THRESHOLD"), (149, u "([BI)[B"), (105, .class_ 976), (0, u "java/util/Arrays$ArrayItr")] 52

def k17m0 : Method := { name := "<init>", desc := "()V", sig := { parameters := [], returnType := none }, accessFlags := 2, code := none }
def k17c1 : Code := { maxStack := 6, maxLocals := 3, code := jdk_65_method_121_code, exceptionTable := #[], attributes := #[] }
def k17m1 : Method := { name := "copyOf", desc := "([BI)[B", sig := { parameters := [(.array .byte), .int], returnType := some (.array .byte) }, accessFlags := 9, code := some k17c1 }
def k17c2 : Code := { maxStack := 4, maxLocals := 2, code := jdk_65_method_131_code, exceptionTable := #[], attributes := #[] }
def k17m2 : Method := { name := "checkLength", desc := "(II)V", sig := { parameters := [.int, .int], returnType := none }, accessFlags := 10, code := some k17c2 }
def k17c3 : Code := { maxStack := 3, maxLocals := 3, code := jdk_65_method_132_code, exceptionTable := #[], attributes := #[] }
def k17m3 : Method := { name := "copyOfRange", desc := "([BII)[B", sig := { parameters := [(.array .byte), .int, .int], returnType := some (.array .byte) }, accessFlags := 9, code := some k17c3 }
def k17c4 : Code := { maxStack := 6, maxLocals := 5, code := jdk_65_method_133_code, exceptionTable := #[], attributes := #[] }
def k17m4 : Method := { name := "copyOfRangeByte", desc := "([BII)[B", sig := { parameters := [(.array .byte), .int, .int], returnType := some (.array .byte) }, accessFlags := 10, code := some k17c4 }
/-- java/util/Arrays -/
def k17 : Class := { plain "java/util/Arrays" (some 0) with
  accessFlags := 49
  interfaces := #[]
  cf := some (fileOf pool17 14 #[.nestMembers #[975, 375, 113, 74]] #[{ accessFlags := 2, nameIndex := 5, descriptorIndex := 6, attributes := #[] }, { accessFlags := 9, nameIndex := 302, descriptorIndex := 869, attributes := #[] }, { accessFlags := 10, nameIndex := 345, descriptorIndex := 346, attributes := #[] }, { accessFlags := 9, nameIndex := 139, descriptorIndex := 342, attributes := #[] }, { accessFlags := 10, nameIndex := 341, descriptorIndex := 342, attributes := #[] }] 49 2 #[] #[{ accessFlags := 26, nameIndex := 715, descriptorIndex := 716, attributes := #[] }, { accessFlags := 26, nameIndex := 719, descriptorIndex := 716, attributes := #[] }, { accessFlags := 4120, nameIndex := 445, descriptorIndex := 117, attributes := #[] }])
  fields := #[{ name := "MIN_ARRAY_SORT_GRAN", type := .int, accessFlags := 26, slot := 0, constantValue := 0 }, { name := "INSERTIONSORT_THRESHOLD", type := .int, accessFlags := 26, slot := 1, constantValue := 0 }, { name := "$assertionsDisabled", type := .boolean, accessFlags := 4120, slot := 2, constantValue := 0 }]
  methods := #[k17m0, k17m1, k17m2, k17m3, k17m4]
  instanceTypes := #[]
  staticTypes := #[.int, .int, .boolean]
  resolved := Array.replicate 1029 none
  statics := none }

def pool18 : Array CpInfo := pool [(2, .class_ 4), (1, u "java/lang/Object"), (0, u "<init>"), (0, u "()V"), (1, .class_ 10), (1, u "java/lang/System"), (0, u "allowSecurityManager"), (0, u "I"), (16, u "cons"), (0, u "Ljava/io/Console;"), (77, .class_ 110), (1, u "java/lang/System$CallersHolder"), (43, u "initialErrStream"), (0, u "Ljava/io/PrintStream;"), (19, u "security"), (0, u "Ljava/lang/SecurityManager;"), (31, .class_ 209), (0, u "java/lang/System$1"), (7, u "props"), (0, u "Ljava/util/Properties;"), (2, u "lineSeparator"), (0, u "Ljava/lang/String;"), (96, .class_ 321), (1, u "java/lang/System$LoggerFinder"), (5, .class_ 328), (0, u "java/lang/System$Logger"), (67, u "err"), (2, u "out"), (91, u "notSupportedJnuEncoding"), (15, u "in"), (17, u "initialIn"), (0, u "Ljava/io/InputStream;"), (35, u "bootLayer"), (0, u "Ljava/lang/ModuleLayer;"), (99, .class_ 664), (0, u "java/lang/System$2"), (9, u "NEVER"), (2, u "MAYBE"), (49, u "arraycopy"), (0, u "(Ljava/lang/Object;ILjava/lang/Object;II)V"), (72, .class_ 802), (0, u "java/lang/System$Logger$Level")] 31

def k18m0 : Method := { name := "<init>", desc := "()V", sig := { parameters := [], returnType := none }, accessFlags := 2, code := none }
def k18m1 : Method := { name := "arraycopy", desc := "(Ljava/lang/Object;ILjava/lang/Object;II)V", sig := { parameters := [(.object "java/lang/Object"), .int, (.object "java/lang/Object"), .int, .int], returnType := none }, accessFlags := 265, code := none }
/-- java/lang/System -/
def k18 : Class := { plain "java/lang/System" (some 0) with
  accessFlags := 49
  interfaces := #[]
  cf := some (fileOf pool18 8 #[.nestMembers #[319, 327, 801, 108, 663, 208]] #[{ accessFlags := 2, nameIndex := 5, descriptorIndex := 6, attributes := #[] }, { accessFlags := 265, nameIndex := 727, descriptorIndex := 728, attributes := #[] }] 49 2 #[] #[{ accessFlags := 25, nameIndex := 507, descriptorIndex := 526, attributes := #[] }, { accessFlags := 25, nameIndex := 399, descriptorIndex := 155, attributes := #[] }, { accessFlags := 25, nameIndex := 396, descriptorIndex := 155, attributes := #[] }, { accessFlags := 10, nameIndex := 525, descriptorIndex := 526, attributes := #[] }, { accessFlags := 26, nameIndex := 674, descriptorIndex := 12, attributes := #[] }, { accessFlags := 26, nameIndex := 677, descriptorIndex := 12, attributes := #[] }, { accessFlags := 10, nameIndex := 11, descriptorIndex := 12, attributes := #[] }, { accessFlags := 74, nameIndex := 175, descriptorIndex := 176, attributes := #[] }, { accessFlags := 10, nameIndex := 491, descriptorIndex := 222, attributes := #[] }, { accessFlags := 74, nameIndex := 29, descriptorIndex := 30, attributes := #[] }, { accessFlags := 74, nameIndex := 154, descriptorIndex := 155, attributes := #[] }, { accessFlags := 10, nameIndex := 217, descriptorIndex := 218, attributes := #[] }, { accessFlags := 10, nameIndex := 221, descriptorIndex := 222, attributes := #[] }, { accessFlags := 8, nameIndex := 562, descriptorIndex := 563, attributes := #[] }])
  fields := #[{ name := "in", type := (.object "java/io/InputStream"), accessFlags := 25, slot := 0, constantValue := 0 }, { name := "out", type := (.object "java/io/PrintStream"), accessFlags := 25, slot := 1, constantValue := 0 }, { name := "err", type := (.object "java/io/PrintStream"), accessFlags := 25, slot := 2, constantValue := 0 }, { name := "initialIn", type := (.object "java/io/InputStream"), accessFlags := 10, slot := 3, constantValue := 0 }, { name := "NEVER", type := .int, accessFlags := 26, slot := 4, constantValue := 0 }, { name := "MAYBE", type := .int, accessFlags := 26, slot := 5, constantValue := 0 }, { name := "allowSecurityManager", type := .int, accessFlags := 10, slot := 6, constantValue := 0 }, { name := "security", type := (.object "java/lang/SecurityManager"), accessFlags := 74, slot := 7, constantValue := 0 }, { name := "notSupportedJnuEncoding", type := (.object "java/lang/String"), accessFlags := 10, slot := 8, constantValue := 0 }, { name := "cons", type := (.object "java/io/Console"), accessFlags := 74, slot := 9, constantValue := 0 }, { name := "initialErrStream", type := (.object "java/io/PrintStream"), accessFlags := 74, slot := 10, constantValue := 0 }, { name := "props", type := (.object "java/util/Properties"), accessFlags := 10, slot := 11, constantValue := 0 }, { name := "lineSeparator", type := (.object "java/lang/String"), accessFlags := 10, slot := 12, constantValue := 0 }, { name := "bootLayer", type := (.object "java/lang/ModuleLayer"), accessFlags := 8, slot := 13, constantValue := 0 }]
  methods := #[k18m0, k18m1]
  instanceTypes := #[]
  staticTypes := #[(.object "java/io/InputStream"), (.object "java/io/PrintStream"), (.object "java/io/PrintStream"), (.object "java/io/InputStream"), .int, .int, .int, (.object "java/lang/SecurityManager"), (.object "java/lang/String"), (.object "java/io/Console"), (.object "java/io/PrintStream"), (.object "java/util/Properties"), (.object "java/lang/String"), (.object "java/lang/ModuleLayer")]
  resolved := Array.replicate 834 none
  statics := none }

def pool19 : Array CpInfo := pool [(6, .class_ 8), (1, u "java/lang/Object"), (0, u "<init>"), (0, u "()V"), (1, .class_ 14), (1, u "java/lang/StringUTF16"), (31, u "$assertionsDisabled"), (0, u "Z"), (13, u "HI_BYTE_SHIFT"), (0, u "I"), (2, u "LO_BYTE_SHIFT"), (49, .methodref 12 116), (0, .nameAndType 117 118), (0, u "compress"), (0, u "([CI[BII)I"), (3, u "([CII)[B"), (138, u "coderFromArrayLen"), (0, u "([BI)B"), (106, .class_ 371), (1, u "java/lang/StringUTF16$LinesSpliterator"), (58, u "MAX_LENGTH"), (196, .class_ 628), (0, u "java/lang/StringUTF16$CodePointsSpliterator"), (0, .class_ 630), (0, u "java/lang/StringUTF16$CharsSpliterator")] 4

def k19m0 : Method := { name := "<init>", desc := "()V", sig := { parameters := [], returnType := none }, accessFlags := 0, code := none }
def k19c1 : Code := { maxStack := 2, maxLocals := 2, code := jdk_52_method_15_code, exceptionTable := #[], attributes := #[] }
def k19m1 : Method := { name := "coderFromArrayLen", desc := "([BI)B", sig := { parameters := [(.array .byte), .int], returnType := some .byte }, accessFlags := 8, code := some k19c1 }
def k19c2 : Code := { maxStack := 5, maxLocals := 6, code := jdk_52_method_16_code, exceptionTable := #[], attributes := #[] }
def k19m2 : Method := { name := "compress", desc := "([CII)[B", sig := { parameters := [(.array .char), .int, .int], returnType := some (.array .byte) }, accessFlags := 9, code := some k19c2 }
def k19c3 : Code := { maxStack := 3, maxLocals := 7, code := jdk_52_method_21_code, exceptionTable := #[], attributes := #[] }
def k19m3 : Method := { name := "compress", desc := "([CI[BII)I", sig := { parameters := [(.array .char), .int, (.array .byte), .int, .int], returnType := some .int }, accessFlags := 9, code := some k19c3 }
/-- java/lang/StringUTF16 -/
def k19 : Class := { plain "java/lang/StringUTF16" (some 0) with
  accessFlags := 48
  interfaces := #[]
  cf := some (fileOf pool19 12 #[.nestMembers #[627, 629, 369]] #[{ accessFlags := 0, nameIndex := 9, descriptorIndex := 10, attributes := #[] }, { accessFlags := 8, nameIndex := 261, descriptorIndex := 262, attributes := #[] }, { accessFlags := 9, nameIndex := 117, descriptorIndex := 122, attributes := #[] }, { accessFlags := 9, nameIndex := 117, descriptorIndex := 118, attributes := #[] }] 48 6 #[] #[{ accessFlags := 26, nameIndex := 61, descriptorIndex := 62, attributes := #[] }, { accessFlags := 26, nameIndex := 65, descriptorIndex := 62, attributes := #[] }, { accessFlags := 24, nameIndex := 430, descriptorIndex := 62, attributes := #[] }, { accessFlags := 4120, nameIndex := 46, descriptorIndex := 47, attributes := #[] }])
  fields := #[{ name := "HI_BYTE_SHIFT", type := .int, accessFlags := 26, slot := 0, constantValue := 0 }, { name := "LO_BYTE_SHIFT", type := .int, accessFlags := 26, slot := 1, constantValue := 0 }, { name := "MAX_LENGTH", type := .int, accessFlags := 24, slot := 2, constantValue := 0 }, { name := "$assertionsDisabled", type := .boolean, accessFlags := 4120, slot := 3, constantValue := 0 }]
  methods := #[k19m0, k19m1, k19m2, k19m3]
  instanceTypes := #[]
  staticTypes := #[.int, .int, .int, .boolean]
  resolved := Array.replicate 635 none
  statics := none }

def pool20 : Array CpInfo := pool [(4, .class_ 6), (1, u "java/lang/Object"), (0, u "<init>"), (0, u "()V"), (5, .class_ 16), (1, u "java/lang/StringLatin1"), (104, u "$assertionsDisabled"), (0, u "Z"), (98, .class_ 223), (1, u "java/lang/StringLatin1$LinesSpliterator"), (57, u "equals"), (0, u "([B[B)Z"), (107, .class_ 391), (0, u "java/lang/StringLatin1$CharsSpliterator")] 3

def k20m0 : Method := { name := "<init>", desc := "()V", sig := { parameters := [], returnType := none }, accessFlags := 0, code := none }
def k20c1 : Code := { maxStack := 3, maxLocals := 3, code := jdk_43_method_13_code, exceptionTable := #[], attributes := #[] }
def k20m1 : Method := { name := "equals", desc := "([B[B)Z", sig := { parameters := [(.array .byte), (.array .byte)], returnType := some .boolean }, accessFlags := 9, code := some k20c1 }
/-- java/lang/StringLatin1 -/
def k20 : Class := { plain "java/lang/StringLatin1" (some 0) with
  accessFlags := 48
  interfaces := #[]
  cf := some (fileOf pool20 14 #[.nestMembers #[390, 221]] #[{ accessFlags := 0, nameIndex := 7, descriptorIndex := 8, attributes := #[] }, { accessFlags := 9, nameIndex := 281, descriptorIndex := 282, attributes := #[] }] 48 4 #[] #[{ accessFlags := 4120, nameIndex := 121, descriptorIndex := 122, attributes := #[] }])
  fields := #[{ name := "$assertionsDisabled", type := .boolean, accessFlags := 4120, slot := 0, constantValue := 0 }]
  methods := #[k20m0, k20m1]
  instanceTypes := #[]
  staticTypes := #[.boolean]
  resolved := Array.replicate 395 none
  statics := none }

def pool21 : Array CpInfo := pool [(2, .class_ 4), (1, u "java/lang/Object"), (0, u "<init>"), (0, u "()V"), (17, .class_ 26), (1, u "jdk/internal/util/Preconditions"), (28, .class_ 56), (0, u "jdk/internal/util/Preconditions$4"), (57, .class_ 115), (0, u "jdk/internal/util/Preconditions$1"), (7, u "SIOOBE_FORMATTER"), (0, u "Ljava/util/function/BiFunction;"), (0, .class_ 126), (0, u "jdk/internal/util/Preconditions$2"), (3, u "AIOOBE_FORMATTER"), (0, .class_ 132), (0, u "jdk/internal/util/Preconditions$3"), (3, u "IOOBE_FORMATTER")] 57

def k21m0 : Method := { name := "<init>", desc := "()V", sig := { parameters := [], returnType := none }, accessFlags := 1, code := none }
/-- jdk/internal/util/Preconditions -/
def k21 : Class := { plain "jdk/internal/util/Preconditions" (some 0) with
  accessFlags := 33
  interfaces := #[]
  cf := some (fileOf pool21 24 #[.nestMembers #[55, 131, 125, 114]] #[{ accessFlags := 1, nameIndex := 5, descriptorIndex := 6, attributes := #[] }] 33 2 #[] #[{ accessFlags := 25, nameIndex := 123, descriptorIndex := 124, attributes := #[] }, { accessFlags := 25, nameIndex := 130, descriptorIndex := 124, attributes := #[] }, { accessFlags := 25, nameIndex := 136, descriptorIndex := 124, attributes := #[] }])
  fields := #[{ name := "SIOOBE_FORMATTER", type := (.object "java/util/function/BiFunction"), accessFlags := 25, slot := 0, constantValue := 0 }, { name := "AIOOBE_FORMATTER", type := (.object "java/util/function/BiFunction"), accessFlags := 25, slot := 1, constantValue := 0 }, { name := "IOOBE_FORMATTER", type := (.object "java/util/function/BiFunction"), accessFlags := 25, slot := 2, constantValue := 0 }]
  methods := #[k21m0]
  instanceTypes := #[]
  staticTypes := #[(.object "java/util/function/BiFunction"), (.object "java/util/function/BiFunction"), (.object "java/util/function/BiFunction")]
  resolved := Array.replicate 194 none
  statics := some 3 }

def pool22 : Array CpInfo := pool [(1, u "java/lang/Cloneable"), (0, .class_ 1), (0, u "java/lang/Object"), (0, .class_ 3)] 3

/-- java/lang/Cloneable -/
def k22 : Class := { plain "java/lang/Cloneable" (some 0) with
  accessFlags := 1537
  interfaces := #[]
  cf := some (fileOf pool22 2 #[] #[] 1537 4 #[] #[])
  fields := #[]
  methods := #[]
  instanceTypes := #[]
  staticTypes := #[]
  resolved := Array.replicate 8 none
  statics := none }

/-- the primitive byte -/
def k23 : Class := { plain "byte" none with kind := .primitive 'B', accessFlags := 0x411 }
/-- [B -/
def k24 : Class := { plain "[B" (some 0) with kind := .array 23 .byte, interfaces := #[22, 3], accessFlags := 1041 }

/-- the primitive char -/
def k25 : Class := { plain "char" none with kind := .primitive 'C', accessFlags := 0x411 }
/-- [C -/
def k26 : Class := { plain "[C" (some 0) with kind := .array 25 .char, interfaces := #[22, 3], accessFlags := 1041 }

/-- the primitive int -/
def k27 : Class := { plain "int" none with kind := .primitive 'I', accessFlags := 0x411 }
/-- [I -/
def k28 : Class := { plain "[I" (some 0) with kind := .array 27 .int, interfaces := #[22, 3], accessFlags := 1041 }

/-- [Ljava/lang/Integer; -/
def k29 : Class := { plain "[Ljava/lang/Integer;" (some 0) with kind := .array 8 (.object "java/lang/Integer"), interfaces := #[22, 3], accessFlags := 1041 }

def heap : Heap := #[{ cls := 8, slots := #[.int 0, .int 0, .null, .null, .ref 262, .ref 261, .int 0, .int 0, .long 0], vm := .statics 8 },
  { cls := 9, slots := #[.int 0, .int 127, .ref 4, .null, .int 0], vm := .statics 9 },
  { cls := 14, slots := #[.long 0, .int 1, .null, .int 0, .null, .int 0, .int 0], vm := .statics 14 },
  { cls := 21, slots := #[.null, .null, .null], vm := .statics 21 },
  { cls := 29, slots := #[.ref 5, .ref 6, .ref 7, .ref 8, .ref 9, .ref 10, .ref 11, .ref 12, .ref 13, .ref 14, .ref 15, .ref 16, .ref 17, .ref 18, .ref 19, .ref 20, .ref 21, .ref 22, .ref 23, .ref 24, .ref 25, .ref 26, .ref 27, .ref 28, .ref 29, .ref 30, .ref 31, .ref 32, .ref 33, .ref 34, .ref 35, .ref 36, .ref 37, .ref 38, .ref 39, .ref 40, .ref 41, .ref 42, .ref 43, .ref 44, .ref 45, .ref 46, .ref 47, .ref 48, .ref 49, .ref 50, .ref 51, .ref 52, .ref 53, .ref 54, .ref 55, .ref 56, .ref 57, .ref 58, .ref 59, .ref 60, .ref 61, .ref 62, .ref 63, .ref 64, .ref 65, .ref 66, .ref 67, .ref 68, .ref 69, .ref 70, .ref 71, .ref 72, .ref 73, .ref 74, .ref 75, .ref 76, .ref 77, .ref 78, .ref 79, .ref 80, .ref 81, .ref 82, .ref 83, .ref 84, .ref 85, .ref 86, .ref 87, .ref 88, .ref 89, .ref 90, .ref 91, .ref 92, .ref 93, .ref 94, .ref 95, .ref 96, .ref 97, .ref 98, .ref 99, .ref 100, .ref 101, .ref 102, .ref 103, .ref 104, .ref 105, .ref 106, .ref 107, .ref 108, .ref 109, .ref 110, .ref 111, .ref 112, .ref 113, .ref 114, .ref 115, .ref 116, .ref 117, .ref 118, .ref 119, .ref 120, .ref 121, .ref 122, .ref 123, .ref 124, .ref 125, .ref 126, .ref 127, .ref 128, .ref 129, .ref 130, .ref 131, .ref 132, .ref 133, .ref 134, .ref 135, .ref 136, .ref 137, .ref 138, .ref 139, .ref 140, .ref 141, .ref 142, .ref 143, .ref 144, .ref 145, .ref 146, .ref 147, .ref 148, .ref 149, .ref 150, .ref 151, .ref 152, .ref 153, .ref 154, .ref 155, .ref 156, .ref 157, .ref 158, .ref 159, .ref 160, .ref 161, .ref 162, .ref 163, .ref 164, .ref 165, .ref 166, .ref 167, .ref 168, .ref 169, .ref 170, .ref 171, .ref 172, .ref 173, .ref 174, .ref 175, .ref 176, .ref 177, .ref 178, .ref 179, .ref 180, .ref 181, .ref 182, .ref 183, .ref 184, .ref 185, .ref 186, .ref 187, .ref 188, .ref 189, .ref 190, .ref 191, .ref 192, .ref 193, .ref 194, .ref 195, .ref 196, .ref 197, .ref 198, .ref 199, .ref 200, .ref 201, .ref 202, .ref 203, .ref 204, .ref 205, .ref 206, .ref 207, .ref 208, .ref 209, .ref 210, .ref 211, .ref 212, .ref 213, .ref 214, .ref 215, .ref 216, .ref 217, .ref 218, .ref 219, .ref 220, .ref 221, .ref 222, .ref 223, .ref 224, .ref 225, .ref 226, .ref 227, .ref 228, .ref 229, .ref 230, .ref 231, .ref 232, .ref 233, .ref 234, .ref 235, .ref 236, .ref 237, .ref 238, .ref 239, .ref 240, .ref 241, .ref 242, .ref 243, .ref 244, .ref 245, .ref 246, .ref 247, .ref 248, .ref 249, .ref 250, .ref 251, .ref 252, .ref 253, .ref 254, .ref 255, .ref 256, .ref 257, .ref 258, .ref 259, .ref 260], vm := .none },
  { cls := 8, slots := #[.int (-128)], vm := .none },
  { cls := 8, slots := #[.int (-127)], vm := .none },
  { cls := 8, slots := #[.int (-126)], vm := .none },
  { cls := 8, slots := #[.int (-125)], vm := .none },
  { cls := 8, slots := #[.int (-124)], vm := .none },
  { cls := 8, slots := #[.int (-123)], vm := .none },
  { cls := 8, slots := #[.int (-122)], vm := .none },
  { cls := 8, slots := #[.int (-121)], vm := .none },
  { cls := 8, slots := #[.int (-120)], vm := .none },
  { cls := 8, slots := #[.int (-119)], vm := .none },
  { cls := 8, slots := #[.int (-118)], vm := .none },
  { cls := 8, slots := #[.int (-117)], vm := .none },
  { cls := 8, slots := #[.int (-116)], vm := .none },
  { cls := 8, slots := #[.int (-115)], vm := .none },
  { cls := 8, slots := #[.int (-114)], vm := .none },
  { cls := 8, slots := #[.int (-113)], vm := .none },
  { cls := 8, slots := #[.int (-112)], vm := .none },
  { cls := 8, slots := #[.int (-111)], vm := .none },
  { cls := 8, slots := #[.int (-110)], vm := .none },
  { cls := 8, slots := #[.int (-109)], vm := .none },
  { cls := 8, slots := #[.int (-108)], vm := .none },
  { cls := 8, slots := #[.int (-107)], vm := .none },
  { cls := 8, slots := #[.int (-106)], vm := .none },
  { cls := 8, slots := #[.int (-105)], vm := .none },
  { cls := 8, slots := #[.int (-104)], vm := .none },
  { cls := 8, slots := #[.int (-103)], vm := .none },
  { cls := 8, slots := #[.int (-102)], vm := .none },
  { cls := 8, slots := #[.int (-101)], vm := .none },
  { cls := 8, slots := #[.int (-100)], vm := .none },
  { cls := 8, slots := #[.int (-99)], vm := .none },
  { cls := 8, slots := #[.int (-98)], vm := .none },
  { cls := 8, slots := #[.int (-97)], vm := .none },
  { cls := 8, slots := #[.int (-96)], vm := .none },
  { cls := 8, slots := #[.int (-95)], vm := .none },
  { cls := 8, slots := #[.int (-94)], vm := .none },
  { cls := 8, slots := #[.int (-93)], vm := .none },
  { cls := 8, slots := #[.int (-92)], vm := .none },
  { cls := 8, slots := #[.int (-91)], vm := .none },
  { cls := 8, slots := #[.int (-90)], vm := .none },
  { cls := 8, slots := #[.int (-89)], vm := .none },
  { cls := 8, slots := #[.int (-88)], vm := .none },
  { cls := 8, slots := #[.int (-87)], vm := .none },
  { cls := 8, slots := #[.int (-86)], vm := .none },
  { cls := 8, slots := #[.int (-85)], vm := .none },
  { cls := 8, slots := #[.int (-84)], vm := .none },
  { cls := 8, slots := #[.int (-83)], vm := .none },
  { cls := 8, slots := #[.int (-82)], vm := .none },
  { cls := 8, slots := #[.int (-81)], vm := .none },
  { cls := 8, slots := #[.int (-80)], vm := .none },
  { cls := 8, slots := #[.int (-79)], vm := .none },
  { cls := 8, slots := #[.int (-78)], vm := .none },
  { cls := 8, slots := #[.int (-77)], vm := .none },
  { cls := 8, slots := #[.int (-76)], vm := .none },
  { cls := 8, slots := #[.int (-75)], vm := .none },
  { cls := 8, slots := #[.int (-74)], vm := .none },
  { cls := 8, slots := #[.int (-73)], vm := .none },
  { cls := 8, slots := #[.int (-72)], vm := .none },
  { cls := 8, slots := #[.int (-71)], vm := .none },
  { cls := 8, slots := #[.int (-70)], vm := .none },
  { cls := 8, slots := #[.int (-69)], vm := .none },
  { cls := 8, slots := #[.int (-68)], vm := .none },
  { cls := 8, slots := #[.int (-67)], vm := .none },
  { cls := 8, slots := #[.int (-66)], vm := .none },
  { cls := 8, slots := #[.int (-65)], vm := .none },
  { cls := 8, slots := #[.int (-64)], vm := .none },
  { cls := 8, slots := #[.int (-63)], vm := .none },
  { cls := 8, slots := #[.int (-62)], vm := .none },
  { cls := 8, slots := #[.int (-61)], vm := .none },
  { cls := 8, slots := #[.int (-60)], vm := .none },
  { cls := 8, slots := #[.int (-59)], vm := .none },
  { cls := 8, slots := #[.int (-58)], vm := .none },
  { cls := 8, slots := #[.int (-57)], vm := .none },
  { cls := 8, slots := #[.int (-56)], vm := .none },
  { cls := 8, slots := #[.int (-55)], vm := .none },
  { cls := 8, slots := #[.int (-54)], vm := .none },
  { cls := 8, slots := #[.int (-53)], vm := .none },
  { cls := 8, slots := #[.int (-52)], vm := .none },
  { cls := 8, slots := #[.int (-51)], vm := .none },
  { cls := 8, slots := #[.int (-50)], vm := .none },
  { cls := 8, slots := #[.int (-49)], vm := .none },
  { cls := 8, slots := #[.int (-48)], vm := .none },
  { cls := 8, slots := #[.int (-47)], vm := .none },
  { cls := 8, slots := #[.int (-46)], vm := .none },
  { cls := 8, slots := #[.int (-45)], vm := .none },
  { cls := 8, slots := #[.int (-44)], vm := .none },
  { cls := 8, slots := #[.int (-43)], vm := .none },
  { cls := 8, slots := #[.int (-42)], vm := .none },
  { cls := 8, slots := #[.int (-41)], vm := .none },
  { cls := 8, slots := #[.int (-40)], vm := .none },
  { cls := 8, slots := #[.int (-39)], vm := .none },
  { cls := 8, slots := #[.int (-38)], vm := .none },
  { cls := 8, slots := #[.int (-37)], vm := .none },
  { cls := 8, slots := #[.int (-36)], vm := .none },
  { cls := 8, slots := #[.int (-35)], vm := .none },
  { cls := 8, slots := #[.int (-34)], vm := .none },
  { cls := 8, slots := #[.int (-33)], vm := .none },
  { cls := 8, slots := #[.int (-32)], vm := .none },
  { cls := 8, slots := #[.int (-31)], vm := .none },
  { cls := 8, slots := #[.int (-30)], vm := .none },
  { cls := 8, slots := #[.int (-29)], vm := .none },
  { cls := 8, slots := #[.int (-28)], vm := .none },
  { cls := 8, slots := #[.int (-27)], vm := .none },
  { cls := 8, slots := #[.int (-26)], vm := .none },
  { cls := 8, slots := #[.int (-25)], vm := .none },
  { cls := 8, slots := #[.int (-24)], vm := .none },
  { cls := 8, slots := #[.int (-23)], vm := .none },
  { cls := 8, slots := #[.int (-22)], vm := .none },
  { cls := 8, slots := #[.int (-21)], vm := .none },
  { cls := 8, slots := #[.int (-20)], vm := .none },
  { cls := 8, slots := #[.int (-19)], vm := .none },
  { cls := 8, slots := #[.int (-18)], vm := .none },
  { cls := 8, slots := #[.int (-17)], vm := .none },
  { cls := 8, slots := #[.int (-16)], vm := .none },
  { cls := 8, slots := #[.int (-15)], vm := .none },
  { cls := 8, slots := #[.int (-14)], vm := .none },
  { cls := 8, slots := #[.int (-13)], vm := .none },
  { cls := 8, slots := #[.int (-12)], vm := .none },
  { cls := 8, slots := #[.int (-11)], vm := .none },
  { cls := 8, slots := #[.int (-10)], vm := .none },
  { cls := 8, slots := #[.int (-9)], vm := .none },
  { cls := 8, slots := #[.int (-8)], vm := .none },
  { cls := 8, slots := #[.int (-7)], vm := .none },
  { cls := 8, slots := #[.int (-6)], vm := .none },
  { cls := 8, slots := #[.int (-5)], vm := .none },
  { cls := 8, slots := #[.int (-4)], vm := .none },
  { cls := 8, slots := #[.int (-3)], vm := .none },
  { cls := 8, slots := #[.int (-2)], vm := .none },
  { cls := 8, slots := #[.int (-1)], vm := .none },
  { cls := 8, slots := #[.int (0)], vm := .none },
  { cls := 8, slots := #[.int (1)], vm := .none },
  { cls := 8, slots := #[.int (2)], vm := .none },
  { cls := 8, slots := #[.int (3)], vm := .none },
  { cls := 8, slots := #[.int (4)], vm := .none },
  { cls := 8, slots := #[.int (5)], vm := .none },
  { cls := 8, slots := #[.int (6)], vm := .none },
  { cls := 8, slots := #[.int (7)], vm := .none },
  { cls := 8, slots := #[.int (8)], vm := .none },
  { cls := 8, slots := #[.int (9)], vm := .none },
  { cls := 8, slots := #[.int (10)], vm := .none },
  { cls := 8, slots := #[.int (11)], vm := .none },
  { cls := 8, slots := #[.int (12)], vm := .none },
  { cls := 8, slots := #[.int (13)], vm := .none },
  { cls := 8, slots := #[.int (14)], vm := .none },
  { cls := 8, slots := #[.int (15)], vm := .none },
  { cls := 8, slots := #[.int (16)], vm := .none },
  { cls := 8, slots := #[.int (17)], vm := .none },
  { cls := 8, slots := #[.int (18)], vm := .none },
  { cls := 8, slots := #[.int (19)], vm := .none },
  { cls := 8, slots := #[.int (20)], vm := .none },
  { cls := 8, slots := #[.int (21)], vm := .none },
  { cls := 8, slots := #[.int (22)], vm := .none },
  { cls := 8, slots := #[.int (23)], vm := .none },
  { cls := 8, slots := #[.int (24)], vm := .none },
  { cls := 8, slots := #[.int (25)], vm := .none },
  { cls := 8, slots := #[.int (26)], vm := .none },
  { cls := 8, slots := #[.int (27)], vm := .none },
  { cls := 8, slots := #[.int (28)], vm := .none },
  { cls := 8, slots := #[.int (29)], vm := .none },
  { cls := 8, slots := #[.int (30)], vm := .none },
  { cls := 8, slots := #[.int (31)], vm := .none },
  { cls := 8, slots := #[.int (32)], vm := .none },
  { cls := 8, slots := #[.int (33)], vm := .none },
  { cls := 8, slots := #[.int (34)], vm := .none },
  { cls := 8, slots := #[.int (35)], vm := .none },
  { cls := 8, slots := #[.int (36)], vm := .none },
  { cls := 8, slots := #[.int (37)], vm := .none },
  { cls := 8, slots := #[.int (38)], vm := .none },
  { cls := 8, slots := #[.int (39)], vm := .none },
  { cls := 8, slots := #[.int (40)], vm := .none },
  { cls := 8, slots := #[.int (41)], vm := .none },
  { cls := 8, slots := #[.int (42)], vm := .none },
  { cls := 8, slots := #[.int (43)], vm := .none },
  { cls := 8, slots := #[.int (44)], vm := .none },
  { cls := 8, slots := #[.int (45)], vm := .none },
  { cls := 8, slots := #[.int (46)], vm := .none },
  { cls := 8, slots := #[.int (47)], vm := .none },
  { cls := 8, slots := #[.int (48)], vm := .none },
  { cls := 8, slots := #[.int (49)], vm := .none },
  { cls := 8, slots := #[.int (50)], vm := .none },
  { cls := 8, slots := #[.int (51)], vm := .none },
  { cls := 8, slots := #[.int (52)], vm := .none },
  { cls := 8, slots := #[.int (53)], vm := .none },
  { cls := 8, slots := #[.int (54)], vm := .none },
  { cls := 8, slots := #[.int (55)], vm := .none },
  { cls := 8, slots := #[.int (56)], vm := .none },
  { cls := 8, slots := #[.int (57)], vm := .none },
  { cls := 8, slots := #[.int (58)], vm := .none },
  { cls := 8, slots := #[.int (59)], vm := .none },
  { cls := 8, slots := #[.int (60)], vm := .none },
  { cls := 8, slots := #[.int (61)], vm := .none },
  { cls := 8, slots := #[.int (62)], vm := .none },
  { cls := 8, slots := #[.int (63)], vm := .none },
  { cls := 8, slots := #[.int (64)], vm := .none },
  { cls := 8, slots := #[.int (65)], vm := .none },
  { cls := 8, slots := #[.int (66)], vm := .none },
  { cls := 8, slots := #[.int (67)], vm := .none },
  { cls := 8, slots := #[.int (68)], vm := .none },
  { cls := 8, slots := #[.int (69)], vm := .none },
  { cls := 8, slots := #[.int (70)], vm := .none },
  { cls := 8, slots := #[.int (71)], vm := .none },
  { cls := 8, slots := #[.int (72)], vm := .none },
  { cls := 8, slots := #[.int (73)], vm := .none },
  { cls := 8, slots := #[.int (74)], vm := .none },
  { cls := 8, slots := #[.int (75)], vm := .none },
  { cls := 8, slots := #[.int (76)], vm := .none },
  { cls := 8, slots := #[.int (77)], vm := .none },
  { cls := 8, slots := #[.int (78)], vm := .none },
  { cls := 8, slots := #[.int (79)], vm := .none },
  { cls := 8, slots := #[.int (80)], vm := .none },
  { cls := 8, slots := #[.int (81)], vm := .none },
  { cls := 8, slots := #[.int (82)], vm := .none },
  { cls := 8, slots := #[.int (83)], vm := .none },
  { cls := 8, slots := #[.int (84)], vm := .none },
  { cls := 8, slots := #[.int (85)], vm := .none },
  { cls := 8, slots := #[.int (86)], vm := .none },
  { cls := 8, slots := #[.int (87)], vm := .none },
  { cls := 8, slots := #[.int (88)], vm := .none },
  { cls := 8, slots := #[.int (89)], vm := .none },
  { cls := 8, slots := #[.int (90)], vm := .none },
  { cls := 8, slots := #[.int (91)], vm := .none },
  { cls := 8, slots := #[.int (92)], vm := .none },
  { cls := 8, slots := #[.int (93)], vm := .none },
  { cls := 8, slots := #[.int (94)], vm := .none },
  { cls := 8, slots := #[.int (95)], vm := .none },
  { cls := 8, slots := #[.int (96)], vm := .none },
  { cls := 8, slots := #[.int (97)], vm := .none },
  { cls := 8, slots := #[.int (98)], vm := .none },
  { cls := 8, slots := #[.int (99)], vm := .none },
  { cls := 8, slots := #[.int (100)], vm := .none },
  { cls := 8, slots := #[.int (101)], vm := .none },
  { cls := 8, slots := #[.int (102)], vm := .none },
  { cls := 8, slots := #[.int (103)], vm := .none },
  { cls := 8, slots := #[.int (104)], vm := .none },
  { cls := 8, slots := #[.int (105)], vm := .none },
  { cls := 8, slots := #[.int (106)], vm := .none },
  { cls := 8, slots := #[.int (107)], vm := .none },
  { cls := 8, slots := #[.int (108)], vm := .none },
  { cls := 8, slots := #[.int (109)], vm := .none },
  { cls := 8, slots := #[.int (110)], vm := .none },
  { cls := 8, slots := #[.int (111)], vm := .none },
  { cls := 8, slots := #[.int (112)], vm := .none },
  { cls := 8, slots := #[.int (113)], vm := .none },
  { cls := 8, slots := #[.int (114)], vm := .none },
  { cls := 8, slots := #[.int (115)], vm := .none },
  { cls := 8, slots := #[.int (116)], vm := .none },
  { cls := 8, slots := #[.int (117)], vm := .none },
  { cls := 8, slots := #[.int (118)], vm := .none },
  { cls := 8, slots := #[.int (119)], vm := .none },
  { cls := 8, slots := #[.int (120)], vm := .none },
  { cls := 8, slots := #[.int (121)], vm := .none },
  { cls := 8, slots := #[.int (122)], vm := .none },
  { cls := 8, slots := #[.int (123)], vm := .none },
  { cls := 8, slots := #[.int (124)], vm := .none },
  { cls := 8, slots := #[.int (125)], vm := .none },
  { cls := 8, slots := #[.int (126)], vm := .none },
  { cls := 8, slots := #[.int (127)], vm := .none },
  { cls := 24, slots := #[.int 48, .int 49, .int 50, .int 51, .int 52, .int 53, .int 54, .int 55, .int 56, .int 57, .int 48, .int 49, .int 50, .int 51, .int 52, .int 53, .int 54, .int 55, .int 56, .int 57, .int 48, .int 49, .int 50, .int 51, .int 52, .int 53, .int 54, .int 55, .int 56, .int 57, .int 48, .int 49, .int 50, .int 51, .int 52, .int 53, .int 54, .int 55, .int 56, .int 57, .int 48, .int 49, .int 50, .int 51, .int 52, .int 53, .int 54, .int 55, .int 56, .int 57, .int 48, .int 49, .int 50, .int 51, .int 52, .int 53, .int 54, .int 55, .int 56, .int 57, .int 48, .int 49, .int 50, .int 51, .int 52, .int 53, .int 54, .int 55, .int 56, .int 57, .int 48, .int 49, .int 50, .int 51, .int 52, .int 53, .int 54, .int 55, .int 56, .int 57, .int 48, .int 49, .int 50, .int 51, .int 52, .int 53, .int 54, .int 55, .int 56, .int 57, .int 48, .int 49, .int 50, .int 51, .int 52, .int 53, .int 54, .int 55, .int 56, .int 57], vm := .none },
  { cls := 24, slots := #[.int 48, .int 48, .int 48, .int 48, .int 48, .int 48, .int 48, .int 48, .int 48, .int 48, .int 49, .int 49, .int 49, .int 49, .int 49, .int 49, .int 49, .int 49, .int 49, .int 49, .int 50, .int 50, .int 50, .int 50, .int 50, .int 50, .int 50, .int 50, .int 50, .int 50, .int 51, .int 51, .int 51, .int 51, .int 51, .int 51, .int 51, .int 51, .int 51, .int 51, .int 52, .int 52, .int 52, .int 52, .int 52, .int 52, .int 52, .int 52, .int 52, .int 52, .int 53, .int 53, .int 53, .int 53, .int 53, .int 53, .int 53, .int 53, .int 53, .int 53, .int 54, .int 54, .int 54, .int 54, .int 54, .int 54, .int 54, .int 54, .int 54, .int 54, .int 55, .int 55, .int 55, .int 55, .int 55, .int 55, .int 55, .int 55, .int 55, .int 55, .int 56, .int 56, .int 56, .int 56, .int 56, .int 56, .int 56, .int 56, .int 56, .int 56, .int 57, .int 57, .int 57, .int 57, .int 57, .int 57, .int 57, .int 57, .int 57, .int 57], vm := .none }]
def classes : Array Class := #[k0, k1, k2, k3, k4, k5, k6, k7, k8, k9, k10, k11, k12, k13, k14, k15, k16, k17, k18, k19, k20, k21, k22, k23, k24, k25, k26, k27, k28, k29]
def interned : List (Array UInt16 × Addr) := []
def slotsUsed : Nat := 736
def theMethod : MethodId := ⟨1, 1⟩
def args0 : Array Value := #[.int 5]
def aboutOver (below : List Frame) : State where
  vm := { classes := classes, interned := interned.toArray }
  heap := heap
  slotsUsed := slotsUsed
  threads := #[{ frames := .invoking theMethod args0 :: below }]
def below0 : List Frame := [.native { method := ⟨0, 0⟩, args := #[] }]
def about1 : State := aboutOver below0
def p0 : Program := .bare "" "" ""
def e0 : Env := launch0.env 0 0 0
theorem w_frames : about1.frames = Frame.invoking theMethod args0 :: below0 := rfl
set_option maxRecDepth 65536 in
theorem w_args : argsFit about1.vm theMethod args0 = true := by decide +kernel
set_option maxRecDepth 65536 in
theorem w_heap : heapFits about1 = true := by decide +kernel
set_option maxRecDepth 65536 in
theorem w_runnable : about1.curStatus? = some .runnable := by decide +kernel
set_option maxRecDepth 65536 in
theorem w_alone : about1.alone = true := by decide +kernel
set_option maxRecDepth 65536 in
theorem w_named : about1.methodNamed? x = some theMethod := by decide +kernel
set_option maxRecDepth 65536 in
theorem w_hears : about1.hears theMethod below0 = true := by decide +kernel
set_option maxRecDepth 65536 in
theorem w_ripe : about1.ripe theMethod args0 below0 = true := by decide +kernel
theorem w_running : about1.status = .running := rfl
set_option maxRecDepth 65536 in
theorem w_room : about1.hasRoom e0.platform room_1 = true :=
  launch0.hasRoom_least _ room_1 (by decide +kernel) (by decide +kernel) (by decide +kernel) (by decide +kernel) (by decide +kernel) (by decide +kernel)
theorem allAtoms_all (ts : List Jvm.Cond) (a : Array Jvm.Value) (st : Jvm.State) : (allAtoms ts).before a st = ts.all (fun c => c.before a st) := by
  induction ts with
  | nil => rfl
  | cons c t ih =>
    show (Jvm.Cond.and c (allAtoms t)).before a st = _
    rw [Jvm.Cond.before_and, ih, List.all_cons]
def words1 : List Jvm.Cond := Jvm.Cond.code x code maxLocals ret :: tables_1
/-- a 'code' word, met by the world's own term for the bytes: nothing is compared byte by byte -/
theorem code_word {y : MethodName} {bytes : ByteArray} {mx : Nat} {rt : Option FieldType} {a : Array Value} {s : State} {m : MethodId} {meth : Method} {c : Code} (h1 : s.methodNamed? y = some m) (h2 : s.vm.method? m = some meth) (h3 : meth.code = some c) (h4 : c.code = bytes)
    (h5 : (c.maxLocals == mx && c.exceptionTable.isEmpty && decide (c.maxStack ≤ mostOperands) && decide (meth.sig.returnType = rt) && !meth.locks && decide (parseMethodDescriptor y.desc = some meth.sig)) = true) : (Jvm.Cond.code y bytes mx rt).before a s = true := by
  simp only [Bool.and_eq_true, beq_iff_eq, Bool.not_eq_true', decide_eq_true_eq] at h5
  obtain ⟨⟨⟨⟨⟨g1, g2⟩, g3⟩, g4⟩, g5⟩, g6⟩ := h5
  simp [Cond.before, Cond.holds, Cond.value, h1, h2, h3, h4, g1, g2, g3, g4, g5, g6]
def isCode : Jvm.Cond → Bool
  | .code _ _ _ _ => true
  | _ => false
theorem all_split {L : List Jvm.Cond} {P : Jvm.Cond → Bool} (h1 : L.all (fun c => isCode c || P c) = true) (h2 : ∀ c ∈ L.filter isCode, P c = true) : L.all P = true := by
  refine List.all_eq_true.mpr fun c hc => ?_
  have h := List.all_eq_true.mp h1 c hc
  rcases Bool.eq_false_or_eq_true (isCode c) with hi | hi
  · exact h2 c (List.mem_filter.mpr ⟨hc, hi⟩)
  · simpa [hi] using h
set_option maxRecDepth 65536 in
theorem w_c0 : (Jvm.Cond.code x code maxLocals ret).before args0 about1 = true := code_word (m := ⟨1, 1⟩) (meth := k1m1) (c := k1c1) (by decide +kernel) rfl rfl rfl (by decide +kernel)
set_option maxRecDepth 65536 in
theorem w_c1 : (Jvm.Cond.code ({ cls := "com/example/durable_cron/durablecron/store/RequestOutcome", name := "answered", desc := "(I)Lcom/example/durable_cron/durablecron/store/RequestOutcome;" } : Jvm.MethodName) prog_28_method_2_code (1 : Nat) (Option.some (Jvm.ClassFile.FieldType.object "com/example/durable_cron/durablecron/store/RequestOutcome"))).before args0 about1 = true := code_word (m := ⟨2, 1⟩) (meth := k2m1) (c := k2c1) (by decide +kernel) rfl rfl rfl (by decide +kernel)
set_option maxRecDepth 65536 in
theorem w_c2 : (Jvm.Cond.code ({ cls := "java/lang/Integer", name := "valueOf", desc := "(I)Ljava/lang/Integer;" } : Jvm.MethodName) jdk_33_method_22_code (1 : Nat) (Option.some (Jvm.ClassFile.FieldType.object "java/lang/Integer"))).before args0 about1 = true := code_word (m := ⟨8, 2⟩) (meth := k8m2) (c := k8c2) (by decide +kernel) rfl rfl rfl (by decide +kernel)
set_option maxRecDepth 65536 in
theorem w_c3 : (Jvm.Cond.code ({ cls := "com/example/durable_cron/durablecron/store/RequestOutcome", name := "isSuccess", desc := "(I)Z" } : Jvm.MethodName) prog_28_method_7_code (1 : Nat) (Option.some Jvm.ClassFile.FieldType.boolean)).before args0 about1 = true := code_word (m := ⟨2, 5⟩) (meth := k2m5) (c := k2c5) (by decide +kernel) rfl rfl rfl (by decide +kernel)
set_option maxRecDepth 65536 in
theorem w_c4 : (Jvm.Cond.code ({ cls := "java/lang/StringBuilder", name := "<init>", desc := "()V" } : Jvm.MethodName) jdk_67_method_1_code (1 : Nat) (Option.none : Option Jvm.ClassFile.FieldType)).before args0 about1 = true := code_word (m := ⟨13, 0⟩) (meth := k13m0) (c := k13c0) (by decide +kernel) rfl rfl rfl (by decide +kernel)
set_option maxRecDepth 65536 in
theorem w_c5 : (Jvm.Cond.code ({ cls := "java/lang/AbstractStringBuilder", name := "<init>", desc := "(I)V" } : Jvm.MethodName) jdk_68_method_2_code (2 : Nat) (Option.none : Option Jvm.ClassFile.FieldType)).before args0 about1 = true := code_word (m := ⟨12, 1⟩) (meth := k12m1) (c := k12c1) (by decide +kernel) rfl rfl rfl (by decide +kernel)
set_option maxRecDepth 65536 in
theorem w_c6 : (Jvm.Cond.code ({ cls := "java/lang/Object", name := "<init>", desc := "()V" } : Jvm.MethodName) object_method_1_code (1 : Nat) (Option.none : Option Jvm.ClassFile.FieldType)).before args0 about1 = true := code_word (m := ⟨0, 0⟩) (meth := k0m0) (c := k0c0) (by decide +kernel) rfl rfl rfl (by decide +kernel)
set_option maxRecDepth 65536 in
theorem w_c7 : (Jvm.Cond.code ({ cls := "java/lang/StringBuilder", name := "append", desc := "(Ljava/lang/String;)Ljava/lang/StringBuilder;" } : Jvm.MethodName) jdk_67_method_7_code (2 : Nat) (Option.some (Jvm.ClassFile.FieldType.object "java/lang/StringBuilder"))).before args0 about1 = true := code_word (m := ⟨13, 1⟩) (meth := k13m1) (c := k13c1) (by decide +kernel) rfl rfl rfl (by decide +kernel)
set_option maxRecDepth 65536 in
theorem w_c8 : (Jvm.Cond.code ({ cls := "java/lang/AbstractStringBuilder", name := "append", desc := "(Ljava/lang/String;)Ljava/lang/AbstractStringBuilder;" } : Jvm.MethodName) jdk_68_method_22_code (3 : Nat) (Option.some (Jvm.ClassFile.FieldType.object "java/lang/AbstractStringBuilder"))).before args0 about1 = true := code_word (m := ⟨12, 5⟩) (meth := k12m5) (c := k12c5) (by decide +kernel) rfl rfl rfl (by decide +kernel)
set_option maxRecDepth 65536 in
theorem w_c9 : (Jvm.Cond.code ({ cls := "java/lang/String", name := "length", desc := "()I" } : Jvm.MethodName) jdk_42_method_54_code (1 : Nat) (Option.some Jvm.ClassFile.FieldType.int)).before args0 about1 = true := code_word (m := ⟨14, 3⟩) (meth := k14m3) (c := k14c3) (by decide +kernel) rfl rfl rfl (by decide +kernel)
set_option maxRecDepth 65536 in
theorem w_c10 : (Jvm.Cond.code ({ cls := "java/lang/String", name := "coder", desc := "()B" } : Jvm.MethodName) jdk_42_method_152_code (1 : Nat) (Option.some Jvm.ClassFile.FieldType.byte)).before args0 about1 = true := code_word (m := ⟨14, 9⟩) (meth := k14m9) (c := k14c9) (by decide +kernel) rfl rfl rfl (by decide +kernel)
set_option maxRecDepth 65536 in
theorem w_c11 : (Jvm.Cond.code ({ cls := "java/lang/AbstractStringBuilder", name := "ensureCapacityInternal", desc := "(I)V" } : Jvm.MethodName) jdk_68_method_9_code (3 : Nat) (Option.none : Option Jvm.ClassFile.FieldType)).before args0 about1 = true := code_word (m := ⟨12, 3⟩) (meth := k12m3) (c := k12c3) (by decide +kernel) rfl rfl rfl (by decide +kernel)
set_option maxRecDepth 65536 in
theorem w_c12 : (Jvm.Cond.code ({ cls := "java/lang/AbstractStringBuilder", name := "newCapacity", desc := "(I)I" } : Jvm.MethodName) jdk_68_method_10_code (6 : Nat) (Option.some Jvm.ClassFile.FieldType.int)).before args0 about1 = true := code_word (m := ⟨12, 4⟩) (meth := k12m4) (c := k12c4) (by decide +kernel) rfl rfl rfl (by decide +kernel)
set_option maxRecDepth 65536 in
theorem w_c13 : (Jvm.Cond.code ({ cls := "jdk/internal/util/ArraysSupport", name := "newLength", desc := "(III)I" } : Jvm.MethodName) jdk_48_method_27_code (4 : Nat) (Option.some Jvm.ClassFile.FieldType.int)).before args0 about1 = true := code_word (m := ⟨15, 1⟩) (meth := k15m1) (c := k15c1) (by decide +kernel) rfl rfl rfl (by decide +kernel)
set_option maxRecDepth 65536 in
theorem w_c14 : (Jvm.Cond.code ({ cls := "java/lang/Math", name := "max", desc := "(II)I" } : Jvm.MethodName) jdk_29_method_65_code (2 : Nat) (Option.some Jvm.ClassFile.FieldType.int)).before args0 about1 = true := code_word (m := ⟨16, 1⟩) (meth := k16m1) (c := k16c1) (by decide +kernel) rfl rfl rfl (by decide +kernel)
set_option maxRecDepth 65536 in
theorem w_c15 : (Jvm.Cond.code ({ cls := "java/util/Arrays", name := "copyOf", desc := "([BI)[B" } : Jvm.MethodName) jdk_65_method_121_code (3 : Nat) (Option.some (Jvm.ClassFile.FieldType.array Jvm.ClassFile.FieldType.byte))).before args0 about1 = true := code_word (m := ⟨17, 1⟩) (meth := k17m1) (c := k17c1) (by decide +kernel) rfl rfl rfl (by decide +kernel)
set_option maxRecDepth 65536 in
theorem w_c16 : (Jvm.Cond.code ({ cls := "java/lang/Math", name := "min", desc := "(II)I" } : Jvm.MethodName) jdk_29_method_69_code (2 : Nat) (Option.some Jvm.ClassFile.FieldType.int)).before args0 about1 = true := code_word (m := ⟨16, 2⟩) (meth := k16m2) (c := k16c2) (by decide +kernel) rfl rfl rfl (by decide +kernel)
set_option maxRecDepth 65536 in
theorem w_c17 : (Jvm.Cond.code ({ cls := "java/lang/AbstractStringBuilder", name := "putStringAt", desc := "(ILjava/lang/String;)V" } : Jvm.MethodName) jdk_68_method_73_code (3 : Nat) (Option.none : Option Jvm.ClassFile.FieldType)).before args0 about1 = true := code_word (m := ⟨12, 10⟩) (meth := k12m10) (c := k12c10) (by decide +kernel) rfl rfl rfl (by decide +kernel)
set_option maxRecDepth 65536 in
theorem w_c18 : (Jvm.Cond.code ({ cls := "java/lang/AbstractStringBuilder", name := "inflateIfNeededFor", desc := "(Ljava/lang/String;)V" } : Jvm.MethodName) jdk_68_method_71_code (2 : Nat) (Option.none : Option Jvm.ClassFile.FieldType)).before args0 about1 = true := code_word (m := ⟨12, 9⟩) (meth := k12m9) (c := k12c9) (by decide +kernel) rfl rfl rfl (by decide +kernel)
set_option maxRecDepth 65536 in
theorem w_c19 : (Jvm.Cond.code ({ cls := "java/lang/String", name := "getBytes", desc := "([BIB)V" } : Jvm.MethodName) jdk_42_method_147_code (4 : Nat) (Option.none : Option Jvm.ClassFile.FieldType)).before args0 about1 = true := code_word (m := ⟨14, 6⟩) (meth := k14m6) (c := k14c6) (by decide +kernel) rfl rfl rfl (by decide +kernel)
set_option maxRecDepth 65536 in
theorem w_c20 : (Jvm.Cond.code ({ cls := "java/lang/StringBuilder", name := "append", desc := "(I)Ljava/lang/StringBuilder;" } : Jvm.MethodName) jdk_67_method_15_code (2 : Nat) (Option.some (Jvm.ClassFile.FieldType.object "java/lang/StringBuilder"))).before args0 about1 = true := code_word (m := ⟨13, 2⟩) (meth := k13m2) (c := k13c2) (by decide +kernel) rfl rfl rfl (by decide +kernel)
set_option maxRecDepth 65536 in
theorem w_c21 : (Jvm.Cond.code ({ cls := "java/lang/AbstractStringBuilder", name := "append", desc := "(I)Ljava/lang/AbstractStringBuilder;" } : Jvm.MethodName) jdk_68_method_32_code (4 : Nat) (Option.some (Jvm.ClassFile.FieldType.object "java/lang/AbstractStringBuilder"))).before args0 about1 = true := code_word (m := ⟨12, 6⟩) (meth := k12m6) (c := k12c6) (by decide +kernel) rfl rfl rfl (by decide +kernel)
set_option maxRecDepth 65536 in
theorem w_c22 : (Jvm.Cond.code ({ cls := "java/lang/Integer", name := "stringSize", desc := "(I)I" } : Jvm.MethodName) jdk_33_method_13_code (4 : Nat) (Option.some Jvm.ClassFile.FieldType.int)).before args0 about1 = true := code_word (m := ⟨8, 1⟩) (meth := k8m1) (c := k8c1) (by decide +kernel) rfl rfl rfl (by decide +kernel)
set_option maxRecDepth 65536 in
theorem w_c23 : (Jvm.Cond.code ({ cls := "java/lang/AbstractStringBuilder", name := "isLatin1", desc := "()Z" } : Jvm.MethodName) jdk_68_method_68_code (1 : Nat) (Option.some Jvm.ClassFile.FieldType.boolean)).before args0 about1 = true := code_word (m := ⟨12, 8⟩) (meth := k12m8) (c := k12c8) (by decide +kernel) rfl rfl rfl (by decide +kernel)
set_option maxRecDepth 65536 in
theorem w_c24 : (Jvm.Cond.code ({ cls := "java/lang/Integer", name := "getChars", desc := "(II[B)I" } : Jvm.MethodName) jdk_33_method_12_code (7 : Nat) (Option.some Jvm.ClassFile.FieldType.int)).before args0 about1 = true := code_word (m := ⟨8, 0⟩) (meth := k8m0) (c := k8c0) (by decide +kernel) rfl rfl rfl (by decide +kernel)
set_option maxRecDepth 65536 in
theorem w_c25 : (Jvm.Cond.code ({ cls := "java/lang/StringBuilder", name := "toString", desc := "()Ljava/lang/String;" } : Jvm.MethodName) jdk_67_method_42_code (1 : Nat) (Option.some (Jvm.ClassFile.FieldType.object "java/lang/String"))).before args0 about1 = true := code_word (m := ⟨13, 3⟩) (meth := k13m3) (c := k13c3) (by decide +kernel) rfl rfl rfl (by decide +kernel)
set_option maxRecDepth 65536 in
theorem w_c26 : (Jvm.Cond.code ({ cls := "java/lang/String", name := "<init>", desc := "(Ljava/lang/StringBuilder;)V" } : Jvm.MethodName) jdk_42_method_53_code (2 : Nat) (Option.none : Option Jvm.ClassFile.FieldType)).before args0 about1 = true := code_word (m := ⟨14, 2⟩) (meth := k14m2) (c := k14c2) (by decide +kernel) rfl rfl rfl (by decide +kernel)
set_option maxRecDepth 65536 in
theorem w_c27 : (Jvm.Cond.code ({ cls := "java/lang/String", name := "<init>", desc := "(Ljava/lang/AbstractStringBuilder;Ljava/lang/Void;)V" } : Jvm.MethodName) jdk_42_method_150_code (5 : Nat) (Option.none : Option Jvm.ClassFile.FieldType)).before args0 about1 = true := code_word (m := ⟨14, 8⟩) (meth := k14m8) (c := k14c8) (by decide +kernel) rfl rfl rfl (by decide +kernel)
set_option maxRecDepth 65536 in
theorem w_c28 : (Jvm.Cond.code ({ cls := "java/lang/AbstractStringBuilder", name := "getValue", desc := "()[B" } : Jvm.MethodName) jdk_68_method_64_code (1 : Nat) (Option.some (Jvm.ClassFile.FieldType.array Jvm.ClassFile.FieldType.byte))).before args0 about1 = true := code_word (m := ⟨12, 7⟩) (meth := k12m7) (c := k12c7) (by decide +kernel) rfl rfl rfl (by decide +kernel)
set_option maxRecDepth 65536 in
theorem w_c29 : (Jvm.Cond.code ({ cls := "java/lang/StringBuilder", name := "length", desc := "()I" } : Jvm.MethodName) jdk_67_method_93_code (1 : Nat) (Option.some Jvm.ClassFile.FieldType.int)).before args0 about1 = true := code_word (m := ⟨13, 4⟩) (meth := k13m4) (c := k13c4) (by decide +kernel) rfl rfl rfl (by decide +kernel)
set_option maxRecDepth 65536 in
theorem w_c30 : (Jvm.Cond.code ({ cls := "java/lang/AbstractStringBuilder", name := "length", desc := "()I" } : Jvm.MethodName) jdk_68_method_6_code (1 : Nat) (Option.some Jvm.ClassFile.FieldType.int)).before args0 about1 = true := code_word (m := ⟨12, 2⟩) (meth := k12m2) (c := k12c2) (by decide +kernel) rfl rfl rfl (by decide +kernel)
set_option maxRecDepth 65536 in
theorem w_c31 : (Jvm.Cond.code ({ cls := "java/util/Arrays", name := "copyOfRange", desc := "([BII)[B" } : Jvm.MethodName) jdk_65_method_132_code (3 : Nat) (Option.some (Jvm.ClassFile.FieldType.array Jvm.ClassFile.FieldType.byte))).before args0 about1 = true := code_word (m := ⟨17, 3⟩) (meth := k17m3) (c := k17c3) (by decide +kernel) rfl rfl rfl (by decide +kernel)
set_option maxRecDepth 65536 in
theorem w_c32 : (Jvm.Cond.code ({ cls := "java/util/Arrays", name := "copyOfRangeByte", desc := "([BII)[B" } : Jvm.MethodName) jdk_65_method_133_code (5 : Nat) (Option.some (Jvm.ClassFile.FieldType.array Jvm.ClassFile.FieldType.byte))).before args0 about1 = true := code_word (m := ⟨17, 4⟩) (meth := k17m4) (c := k17c4) (by decide +kernel) rfl rfl rfl (by decide +kernel)
set_option maxRecDepth 65536 in
theorem w_c33 : (Jvm.Cond.code ({ cls := "java/util/Arrays", name := "checkLength", desc := "(II)V" } : Jvm.MethodName) jdk_65_method_131_code (2 : Nat) (Option.none : Option Jvm.ClassFile.FieldType)).before args0 about1 = true := code_word (m := ⟨17, 2⟩) (meth := k17m2) (c := k17c2) (by decide +kernel) rfl rfl rfl (by decide +kernel)
set_option maxRecDepth 65536 in
theorem w_c34 : (Jvm.Cond.code ({ cls := "com/example/durable_cron/durablecron/store/RequestOutcome", name := "<init>", desc := "(Ljava/lang/Integer;Ljava/lang/String;)V" } : Jvm.MethodName) prog_28_method_1_code (3 : Nat) (Option.none : Option Jvm.ClassFile.FieldType)).before args0 about1 = true := code_word (m := ⟨2, 0⟩) (meth := k2m0) (c := k2c0) (by decide +kernel) rfl rfl rfl (by decide +kernel)
set_option maxRecDepth 65536 in
theorem w_c35 : (Jvm.Cond.code ({ cls := "com/example/durable_cron/durablecron/store/RequestOutcome", name := "getStatusCode", desc := "()Ljava/lang/Integer;" } : Jvm.MethodName) prog_28_method_5_code (1 : Nat) (Option.some (Jvm.ClassFile.FieldType.object "java/lang/Integer"))).before args0 about1 = true := code_word (m := ⟨2, 3⟩) (meth := k2m3) (c := k2c3) (by decide +kernel) rfl rfl rfl (by decide +kernel)
set_option maxRecDepth 65536 in
theorem w_c36 : (Jvm.Cond.code ({ cls := "java/lang/Integer", name := "intValue", desc := "()I" } : Jvm.MethodName) jdk_33_method_27_code (1 : Nat) (Option.some Jvm.ClassFile.FieldType.int)).before args0 about1 = true := code_word (m := ⟨8, 4⟩) (meth := k8m4) (c := k8c4) (by decide +kernel) rfl rfl rfl (by decide +kernel)
set_option maxRecDepth 65536 in
theorem w_c37 : (Jvm.Cond.code ({ cls := "com/example/durable_cron/durablecron/store/RequestOutcome", name := "succeeded", desc := "()Z" } : Jvm.MethodName) prog_28_method_4_code (1 : Nat) (Option.some Jvm.ClassFile.FieldType.boolean)).before args0 about1 = true := code_word (m := ⟨2, 2⟩) (meth := k2m2) (c := k2c2) (by decide +kernel) rfl rfl rfl (by decide +kernel)
set_option maxRecDepth 65536 in
theorem w_c38 : (Jvm.Cond.code ({ cls := "com/example/durable_cron/durablecron/store/RequestOutcome", name := "getFailure", desc := "()Ljava/lang/String;" } : Jvm.MethodName) prog_28_method_6_code (1 : Nat) (Option.some (Jvm.ClassFile.FieldType.object "java/lang/String"))).before args0 about1 = true := code_word (m := ⟨2, 4⟩) (meth := k2m4) (c := k2c4) (by decide +kernel) rfl rfl rfl (by decide +kernel)
set_option maxRecDepth 65536 in
theorem w_c39 : (Jvm.Cond.code ({ cls := "com/example/durable_cron/durablecron/store/RequestOutcomeAnsweredPinLaw", name := "expectedFailure", desc := "(I)Ljava/lang/String;" } : Jvm.MethodName) method_5_code (7 : Nat) (Option.some (Jvm.ClassFile.FieldType.object "java/lang/String"))).before args0 about1 = true := code_word (m := ⟨1, 4⟩) (meth := k1m4) (c := k1c4) (by decide +kernel) rfl rfl rfl (by decide +kernel)
set_option maxRecDepth 65536 in
theorem w_c40 : (Jvm.Cond.code ({ cls := "com/example/durable_cron/durablecron/store/RequestOutcomeAnsweredPinLaw", name := "digits", desc := "(J)I" } : Jvm.MethodName) method_3_code (2 : Nat) (Option.some Jvm.ClassFile.FieldType.int)).before args0 about1 = true := code_word (m := ⟨1, 2⟩) (meth := k1m2) (c := k1c2) (by decide +kernel) rfl rfl rfl (by decide +kernel)
set_option maxRecDepth 65536 in
theorem w_c41 : (Jvm.Cond.code ({ cls := "com/example/durable_cron/durablecron/store/RequestOutcomeAnsweredPinLaw", name := "put", desc := "([CIJIIJ)V" } : Jvm.MethodName) method_4_code (8 : Nat) (Option.none : Option Jvm.ClassFile.FieldType)).before args0 about1 = true := code_word (m := ⟨1, 3⟩) (meth := k1m3) (c := k1c3) (by decide +kernel) rfl rfl rfl (by decide +kernel)
set_option maxRecDepth 65536 in
theorem w_c42 : (Jvm.Cond.code ({ cls := "java/lang/String", name := "<init>", desc := "([C)V" } : Jvm.MethodName) jdk_42_method_3_code (2 : Nat) (Option.none : Option Jvm.ClassFile.FieldType)).before args0 about1 = true := code_word (m := ⟨14, 1⟩) (meth := k14m1) (c := k14c1) (by decide +kernel) rfl rfl rfl (by decide +kernel)
set_option maxRecDepth 65536 in
theorem w_c43 : (Jvm.Cond.code ({ cls := "java/lang/String", name := "<init>", desc := "([CIILjava/lang/Void;)V" } : Jvm.MethodName) jdk_42_method_149_code (6 : Nat) (Option.none : Option Jvm.ClassFile.FieldType)).before args0 about1 = true := code_word (m := ⟨14, 7⟩) (meth := k14m7) (c := k14c7) (by decide +kernel) rfl rfl rfl (by decide +kernel)
set_option maxRecDepth 65536 in
theorem w_c44 : (Jvm.Cond.code ({ cls := "java/lang/StringUTF16", name := "compress", desc := "([CII)[B" } : Jvm.MethodName) jdk_52_method_16_code (6 : Nat) (Option.some (Jvm.ClassFile.FieldType.array Jvm.ClassFile.FieldType.byte))).before args0 about1 = true := code_word (m := ⟨19, 2⟩) (meth := k19m2) (c := k19c2) (by decide +kernel) rfl rfl rfl (by decide +kernel)
set_option maxRecDepth 65536 in
theorem w_c45 : (Jvm.Cond.code ({ cls := "java/lang/StringUTF16", name := "compress", desc := "([CI[BII)I" } : Jvm.MethodName) jdk_52_method_21_code (7 : Nat) (Option.some Jvm.ClassFile.FieldType.int)).before args0 about1 = true := code_word (m := ⟨19, 3⟩) (meth := k19m3) (c := k19c3) (by decide +kernel) rfl rfl rfl (by decide +kernel)
set_option maxRecDepth 65536 in
theorem w_c46 : (Jvm.Cond.code ({ cls := "java/lang/StringUTF16", name := "coderFromArrayLen", desc := "([BI)B" } : Jvm.MethodName) jdk_52_method_15_code (2 : Nat) (Option.some Jvm.ClassFile.FieldType.byte)).before args0 about1 = true := code_word (m := ⟨19, 1⟩) (meth := k19m1) (c := k19c1) (by decide +kernel) rfl rfl rfl (by decide +kernel)
set_option maxRecDepth 65536 in
theorem w_c47 : (Jvm.Cond.code ({ cls := "java/lang/String", name := "equals", desc := "(Ljava/lang/Object;)Z" } : Jvm.MethodName) jdk_42_method_66_code (3 : Nat) (Option.some Jvm.ClassFile.FieldType.boolean)).before args0 about1 = true := code_word (m := ⟨14, 5⟩) (meth := k14m5) (c := k14c5) (by decide +kernel) rfl rfl rfl (by decide +kernel)
set_option maxRecDepth 65536 in
theorem w_c48 : (Jvm.Cond.code ({ cls := "java/lang/StringLatin1", name := "equals", desc := "([B[B)Z" } : Jvm.MethodName) jdk_43_method_13_code (3 : Nat) (Option.some Jvm.ClassFile.FieldType.boolean)).before args0 about1 = true := code_word (m := ⟨20, 1⟩) (meth := k20m1) (c := k20c1) (by decide +kernel) rfl rfl rfl (by decide +kernel)
set_option maxRecDepth 65536 in
theorem w_c49 : (Jvm.Cond.code ({ cls := "java/lang/Integer", name := "<init>", desc := "(I)V" } : Jvm.MethodName) jdk_33_method_23_code (2 : Nat) (Option.none : Option Jvm.ClassFile.FieldType)).before args0 about1 = true := code_word (m := ⟨8, 3⟩) (meth := k8m3) (c := k8c3) (by decide +kernel) rfl rfl rfl (by decide +kernel)
set_option maxRecDepth 65536 in
theorem w_c50 : (Jvm.Cond.code ({ cls := "java/lang/Number", name := "<init>", desc := "()V" } : Jvm.MethodName) jdk_18_method_1_code (1 : Nat) (Option.none : Option Jvm.ClassFile.FieldType)).before args0 about1 = true := code_word (m := ⟨4, 0⟩) (meth := k4m0) (c := k4c0) (by decide +kernel) rfl rfl rfl (by decide +kernel)
set_option maxRecDepth 65536 in
theorem w_c51 : (Jvm.Cond.code ({ cls := "java/lang/String", name := "isEmpty", desc := "()Z" } : Jvm.MethodName) jdk_42_method_55_code (1 : Nat) (Option.some Jvm.ClassFile.FieldType.boolean)).before args0 about1 = true := code_word (m := ⟨14, 4⟩) (meth := k14m4) (c := k14c4) (by decide +kernel) rfl rfl rfl (by decide +kernel)
def codes1 : List Jvm.Cond := [Jvm.Cond.code x code maxLocals ret, Jvm.Cond.code ({ cls := "com/example/durable_cron/durablecron/store/RequestOutcome", name := "answered", desc := "(I)Lcom/example/durable_cron/durablecron/store/RequestOutcome;" } : Jvm.MethodName) prog_28_method_2_code (1 : Nat) (Option.some (Jvm.ClassFile.FieldType.object "com/example/durable_cron/durablecron/store/RequestOutcome")), Jvm.Cond.code ({ cls := "java/lang/Integer", name := "valueOf", desc := "(I)Ljava/lang/Integer;" } : Jvm.MethodName) jdk_33_method_22_code (1 : Nat) (Option.some (Jvm.ClassFile.FieldType.object "java/lang/Integer")), Jvm.Cond.code ({ cls := "com/example/durable_cron/durablecron/store/RequestOutcome", name := "isSuccess", desc := "(I)Z" } : Jvm.MethodName) prog_28_method_7_code (1 : Nat) (Option.some Jvm.ClassFile.FieldType.boolean), Jvm.Cond.code ({ cls := "java/lang/StringBuilder", name := "<init>", desc := "()V" } : Jvm.MethodName) jdk_67_method_1_code (1 : Nat) (Option.none : Option Jvm.ClassFile.FieldType), Jvm.Cond.code ({ cls := "java/lang/AbstractStringBuilder", name := "<init>", desc := "(I)V" } : Jvm.MethodName) jdk_68_method_2_code (2 : Nat) (Option.none : Option Jvm.ClassFile.FieldType), Jvm.Cond.code ({ cls := "java/lang/Object", name := "<init>", desc := "()V" } : Jvm.MethodName) object_method_1_code (1 : Nat) (Option.none : Option Jvm.ClassFile.FieldType), Jvm.Cond.code ({ cls := "java/lang/StringBuilder", name := "append", desc := "(Ljava/lang/String;)Ljava/lang/StringBuilder;" } : Jvm.MethodName) jdk_67_method_7_code (2 : Nat) (Option.some (Jvm.ClassFile.FieldType.object "java/lang/StringBuilder")), Jvm.Cond.code ({ cls := "java/lang/AbstractStringBuilder", name := "append", desc := "(Ljava/lang/String;)Ljava/lang/AbstractStringBuilder;" } : Jvm.MethodName) jdk_68_method_22_code (3 : Nat) (Option.some (Jvm.ClassFile.FieldType.object "java/lang/AbstractStringBuilder")), Jvm.Cond.code ({ cls := "java/lang/String", name := "length", desc := "()I" } : Jvm.MethodName) jdk_42_method_54_code (1 : Nat) (Option.some Jvm.ClassFile.FieldType.int), Jvm.Cond.code ({ cls := "java/lang/String", name := "coder", desc := "()B" } : Jvm.MethodName) jdk_42_method_152_code (1 : Nat) (Option.some Jvm.ClassFile.FieldType.byte), Jvm.Cond.code ({ cls := "java/lang/AbstractStringBuilder", name := "ensureCapacityInternal", desc := "(I)V" } : Jvm.MethodName) jdk_68_method_9_code (3 : Nat) (Option.none : Option Jvm.ClassFile.FieldType), Jvm.Cond.code ({ cls := "java/lang/AbstractStringBuilder", name := "newCapacity", desc := "(I)I" } : Jvm.MethodName) jdk_68_method_10_code (6 : Nat) (Option.some Jvm.ClassFile.FieldType.int), Jvm.Cond.code ({ cls := "jdk/internal/util/ArraysSupport", name := "newLength", desc := "(III)I" } : Jvm.MethodName) jdk_48_method_27_code (4 : Nat) (Option.some Jvm.ClassFile.FieldType.int), Jvm.Cond.code ({ cls := "java/lang/Math", name := "max", desc := "(II)I" } : Jvm.MethodName) jdk_29_method_65_code (2 : Nat) (Option.some Jvm.ClassFile.FieldType.int), Jvm.Cond.code ({ cls := "java/util/Arrays", name := "copyOf", desc := "([BI)[B" } : Jvm.MethodName) jdk_65_method_121_code (3 : Nat) (Option.some (Jvm.ClassFile.FieldType.array Jvm.ClassFile.FieldType.byte)), Jvm.Cond.code ({ cls := "java/lang/Math", name := "min", desc := "(II)I" } : Jvm.MethodName) jdk_29_method_69_code (2 : Nat) (Option.some Jvm.ClassFile.FieldType.int), Jvm.Cond.code ({ cls := "java/lang/AbstractStringBuilder", name := "putStringAt", desc := "(ILjava/lang/String;)V" } : Jvm.MethodName) jdk_68_method_73_code (3 : Nat) (Option.none : Option Jvm.ClassFile.FieldType), Jvm.Cond.code ({ cls := "java/lang/AbstractStringBuilder", name := "inflateIfNeededFor", desc := "(Ljava/lang/String;)V" } : Jvm.MethodName) jdk_68_method_71_code (2 : Nat) (Option.none : Option Jvm.ClassFile.FieldType), Jvm.Cond.code ({ cls := "java/lang/String", name := "getBytes", desc := "([BIB)V" } : Jvm.MethodName) jdk_42_method_147_code (4 : Nat) (Option.none : Option Jvm.ClassFile.FieldType), Jvm.Cond.code ({ cls := "java/lang/StringBuilder", name := "append", desc := "(I)Ljava/lang/StringBuilder;" } : Jvm.MethodName) jdk_67_method_15_code (2 : Nat) (Option.some (Jvm.ClassFile.FieldType.object "java/lang/StringBuilder")), Jvm.Cond.code ({ cls := "java/lang/AbstractStringBuilder", name := "append", desc := "(I)Ljava/lang/AbstractStringBuilder;" } : Jvm.MethodName) jdk_68_method_32_code (4 : Nat) (Option.some (Jvm.ClassFile.FieldType.object "java/lang/AbstractStringBuilder")), Jvm.Cond.code ({ cls := "java/lang/Integer", name := "stringSize", desc := "(I)I" } : Jvm.MethodName) jdk_33_method_13_code (4 : Nat) (Option.some Jvm.ClassFile.FieldType.int), Jvm.Cond.code ({ cls := "java/lang/AbstractStringBuilder", name := "isLatin1", desc := "()Z" } : Jvm.MethodName) jdk_68_method_68_code (1 : Nat) (Option.some Jvm.ClassFile.FieldType.boolean), Jvm.Cond.code ({ cls := "java/lang/Integer", name := "getChars", desc := "(II[B)I" } : Jvm.MethodName) jdk_33_method_12_code (7 : Nat) (Option.some Jvm.ClassFile.FieldType.int), Jvm.Cond.code ({ cls := "java/lang/StringBuilder", name := "toString", desc := "()Ljava/lang/String;" } : Jvm.MethodName) jdk_67_method_42_code (1 : Nat) (Option.some (Jvm.ClassFile.FieldType.object "java/lang/String")), Jvm.Cond.code ({ cls := "java/lang/String", name := "<init>", desc := "(Ljava/lang/StringBuilder;)V" } : Jvm.MethodName) jdk_42_method_53_code (2 : Nat) (Option.none : Option Jvm.ClassFile.FieldType), Jvm.Cond.code ({ cls := "java/lang/String", name := "<init>", desc := "(Ljava/lang/AbstractStringBuilder;Ljava/lang/Void;)V" } : Jvm.MethodName) jdk_42_method_150_code (5 : Nat) (Option.none : Option Jvm.ClassFile.FieldType), Jvm.Cond.code ({ cls := "java/lang/AbstractStringBuilder", name := "getValue", desc := "()[B" } : Jvm.MethodName) jdk_68_method_64_code (1 : Nat) (Option.some (Jvm.ClassFile.FieldType.array Jvm.ClassFile.FieldType.byte)), Jvm.Cond.code ({ cls := "java/lang/StringBuilder", name := "length", desc := "()I" } : Jvm.MethodName) jdk_67_method_93_code (1 : Nat) (Option.some Jvm.ClassFile.FieldType.int), Jvm.Cond.code ({ cls := "java/lang/AbstractStringBuilder", name := "length", desc := "()I" } : Jvm.MethodName) jdk_68_method_6_code (1 : Nat) (Option.some Jvm.ClassFile.FieldType.int), Jvm.Cond.code ({ cls := "java/util/Arrays", name := "copyOfRange", desc := "([BII)[B" } : Jvm.MethodName) jdk_65_method_132_code (3 : Nat) (Option.some (Jvm.ClassFile.FieldType.array Jvm.ClassFile.FieldType.byte)), Jvm.Cond.code ({ cls := "java/util/Arrays", name := "copyOfRangeByte", desc := "([BII)[B" } : Jvm.MethodName) jdk_65_method_133_code (5 : Nat) (Option.some (Jvm.ClassFile.FieldType.array Jvm.ClassFile.FieldType.byte)), Jvm.Cond.code ({ cls := "java/util/Arrays", name := "checkLength", desc := "(II)V" } : Jvm.MethodName) jdk_65_method_131_code (2 : Nat) (Option.none : Option Jvm.ClassFile.FieldType), Jvm.Cond.code ({ cls := "com/example/durable_cron/durablecron/store/RequestOutcome", name := "<init>", desc := "(Ljava/lang/Integer;Ljava/lang/String;)V" } : Jvm.MethodName) prog_28_method_1_code (3 : Nat) (Option.none : Option Jvm.ClassFile.FieldType), Jvm.Cond.code ({ cls := "com/example/durable_cron/durablecron/store/RequestOutcome", name := "getStatusCode", desc := "()Ljava/lang/Integer;" } : Jvm.MethodName) prog_28_method_5_code (1 : Nat) (Option.some (Jvm.ClassFile.FieldType.object "java/lang/Integer")), Jvm.Cond.code ({ cls := "java/lang/Integer", name := "intValue", desc := "()I" } : Jvm.MethodName) jdk_33_method_27_code (1 : Nat) (Option.some Jvm.ClassFile.FieldType.int), Jvm.Cond.code ({ cls := "com/example/durable_cron/durablecron/store/RequestOutcome", name := "succeeded", desc := "()Z" } : Jvm.MethodName) prog_28_method_4_code (1 : Nat) (Option.some Jvm.ClassFile.FieldType.boolean), Jvm.Cond.code ({ cls := "com/example/durable_cron/durablecron/store/RequestOutcome", name := "getFailure", desc := "()Ljava/lang/String;" } : Jvm.MethodName) prog_28_method_6_code (1 : Nat) (Option.some (Jvm.ClassFile.FieldType.object "java/lang/String")), Jvm.Cond.code ({ cls := "com/example/durable_cron/durablecron/store/RequestOutcomeAnsweredPinLaw", name := "expectedFailure", desc := "(I)Ljava/lang/String;" } : Jvm.MethodName) method_5_code (7 : Nat) (Option.some (Jvm.ClassFile.FieldType.object "java/lang/String")), Jvm.Cond.code ({ cls := "com/example/durable_cron/durablecron/store/RequestOutcomeAnsweredPinLaw", name := "digits", desc := "(J)I" } : Jvm.MethodName) method_3_code (2 : Nat) (Option.some Jvm.ClassFile.FieldType.int), Jvm.Cond.code ({ cls := "com/example/durable_cron/durablecron/store/RequestOutcomeAnsweredPinLaw", name := "put", desc := "([CIJIIJ)V" } : Jvm.MethodName) method_4_code (8 : Nat) (Option.none : Option Jvm.ClassFile.FieldType), Jvm.Cond.code ({ cls := "java/lang/String", name := "<init>", desc := "([C)V" } : Jvm.MethodName) jdk_42_method_3_code (2 : Nat) (Option.none : Option Jvm.ClassFile.FieldType), Jvm.Cond.code ({ cls := "java/lang/String", name := "<init>", desc := "([CIILjava/lang/Void;)V" } : Jvm.MethodName) jdk_42_method_149_code (6 : Nat) (Option.none : Option Jvm.ClassFile.FieldType), Jvm.Cond.code ({ cls := "java/lang/StringUTF16", name := "compress", desc := "([CII)[B" } : Jvm.MethodName) jdk_52_method_16_code (6 : Nat) (Option.some (Jvm.ClassFile.FieldType.array Jvm.ClassFile.FieldType.byte)), Jvm.Cond.code ({ cls := "java/lang/StringUTF16", name := "compress", desc := "([CI[BII)I" } : Jvm.MethodName) jdk_52_method_21_code (7 : Nat) (Option.some Jvm.ClassFile.FieldType.int), Jvm.Cond.code ({ cls := "java/lang/StringUTF16", name := "coderFromArrayLen", desc := "([BI)B" } : Jvm.MethodName) jdk_52_method_15_code (2 : Nat) (Option.some Jvm.ClassFile.FieldType.byte), Jvm.Cond.code ({ cls := "java/lang/String", name := "equals", desc := "(Ljava/lang/Object;)Z" } : Jvm.MethodName) jdk_42_method_66_code (3 : Nat) (Option.some Jvm.ClassFile.FieldType.boolean), Jvm.Cond.code ({ cls := "java/lang/StringLatin1", name := "equals", desc := "([B[B)Z" } : Jvm.MethodName) jdk_43_method_13_code (3 : Nat) (Option.some Jvm.ClassFile.FieldType.boolean), Jvm.Cond.code ({ cls := "java/lang/Integer", name := "<init>", desc := "(I)V" } : Jvm.MethodName) jdk_33_method_23_code (2 : Nat) (Option.none : Option Jvm.ClassFile.FieldType), Jvm.Cond.code ({ cls := "java/lang/Number", name := "<init>", desc := "()V" } : Jvm.MethodName) jdk_18_method_1_code (1 : Nat) (Option.none : Option Jvm.ClassFile.FieldType), Jvm.Cond.code ({ cls := "java/lang/String", name := "isEmpty", desc := "()Z" } : Jvm.MethodName) jdk_42_method_55_code (1 : Nat) (Option.some Jvm.ClassFile.FieldType.boolean)]
set_option maxRecDepth 65536 in
theorem codes_eq : words1.filter isCode = codes1 := rfl
theorem w_codes : ∀ c ∈ words1.filter isCode, c.before args0 about1 = true := by
  rw [codes_eq]
  intro c hc
  simp only [codes1, List.mem_cons, List.not_mem_nil, or_false] at hc
  rcases hc with rfl | rfl | rfl | rfl | rfl | rfl | rfl | rfl | rfl | rfl | rfl | rfl | rfl | rfl | rfl | rfl | rfl | rfl | rfl | rfl | rfl | rfl | rfl | rfl | rfl | rfl | rfl | rfl | rfl | rfl | rfl | rfl | rfl | rfl | rfl | rfl | rfl | rfl | rfl | rfl | rfl | rfl | rfl | rfl | rfl | rfl | rfl | rfl | rfl | rfl | rfl | rfl
  · exact w_c0
  · exact w_c1
  · exact w_c2
  · exact w_c3
  · exact w_c4
  · exact w_c5
  · exact w_c6
  · exact w_c7
  · exact w_c8
  · exact w_c9
  · exact w_c10
  · exact w_c11
  · exact w_c12
  · exact w_c13
  · exact w_c14
  · exact w_c15
  · exact w_c16
  · exact w_c17
  · exact w_c18
  · exact w_c19
  · exact w_c20
  · exact w_c21
  · exact w_c22
  · exact w_c23
  · exact w_c24
  · exact w_c25
  · exact w_c26
  · exact w_c27
  · exact w_c28
  · exact w_c29
  · exact w_c30
  · exact w_c31
  · exact w_c32
  · exact w_c33
  · exact w_c34
  · exact w_c35
  · exact w_c36
  · exact w_c37
  · exact w_c38
  · exact w_c39
  · exact w_c40
  · exact w_c41
  · exact w_c42
  · exact w_c43
  · exact w_c44
  · exact w_c45
  · exact w_c46
  · exact w_c47
  · exact w_c48
  · exact w_c49
  · exact w_c50
  · exact w_c51
set_option maxRecDepth 65536 in
theorem w_t1 : (words1.take 24).all (fun c => isCode c || c.before args0 about1) = true := by decide +kernel
set_option maxRecDepth 65536 in
theorem w_t2 : ((words1.drop 24).take 24).all (fun c => isCode c || c.before args0 about1) = true := by decide +kernel
set_option maxRecDepth 65536 in
theorem w_t3 : (((words1.drop 24).drop 24).take 24).all (fun c => isCode c || c.before args0 about1) = true := by decide +kernel
set_option maxRecDepth 65536 in
theorem w_t4 : ((((words1.drop 24).drop 24).drop 24).take 24).all (fun c => isCode c || c.before args0 about1) = true := by decide +kernel
set_option maxRecDepth 65536 in
theorem w_t5 : (((((words1.drop 24).drop 24).drop 24).drop 24).take 24).all (fun c => isCode c || c.before args0 about1) = true := by decide +kernel
set_option maxRecDepth 65536 in
theorem w_t6 : ((((((words1.drop 24).drop 24).drop 24).drop 24).drop 24).take 24).all (fun c => isCode c || c.before args0 about1) = true := by decide +kernel
set_option maxRecDepth 65536 in
theorem w_t7 : (((((((words1.drop 24).drop 24).drop 24).drop 24).drop 24).drop 24).take 24).all (fun c => isCode c || c.before args0 about1) = true := by decide +kernel
set_option maxRecDepth 65536 in
theorem w_t8 : ((((((((words1.drop 24).drop 24).drop 24).drop 24).drop 24).drop 24).drop 24).take 24).all (fun c => isCode c || c.before args0 about1) = true := by decide +kernel
set_option maxRecDepth 65536 in
theorem w_t9 : (((((((((words1.drop 24).drop 24).drop 24).drop 24).drop 24).drop 24).drop 24).drop 24).take 24).all (fun c => isCode c || c.before args0 about1) = true := by decide +kernel
set_option maxRecDepth 65536 in
theorem w_t10 : ((((((((((words1.drop 24).drop 24).drop 24).drop 24).drop 24).drop 24).drop 24).drop 24).drop 24).take 24).all (fun c => isCode c || c.before args0 about1) = true := by decide +kernel
set_option maxRecDepth 65536 in
theorem w_t11 : (((((((((((words1.drop 24).drop 24).drop 24).drop 24).drop 24).drop 24).drop 24).drop 24).drop 24).drop 24).take 24).all (fun c => isCode c || c.before args0 about1) = true := by decide +kernel
set_option maxRecDepth 65536 in
theorem w_t12 : (((((((((((words1.drop 24).drop 24).drop 24).drop 24).drop 24).drop 24).drop 24).drop 24).drop 24).drop 24).drop 24).all (fun c => isCode c || c.before args0 about1) = true := by decide +kernel
theorem w_tables : (allAtoms (Jvm.Cond.code x code maxLocals ret :: tables_1)).before args0 about1 = true := by
  rw [allAtoms_all]
  show words1.all (fun c => c.before args0 about1) = true
  refine all_split ?_ w_codes
  rw [← List.take_append_drop 24 words1, List.all_append, w_t1, ← List.take_append_drop 24 (words1.drop 24), List.all_append, w_t2, ← List.take_append_drop 24 ((words1.drop 24).drop 24), List.all_append, w_t3, ← List.take_append_drop 24 (((words1.drop 24).drop 24).drop 24), List.all_append, w_t4, ← List.take_append_drop 24 ((((words1.drop 24).drop 24).drop 24).drop 24), List.all_append, w_t5, ← List.take_append_drop 24 (((((words1.drop 24).drop 24).drop 24).drop 24).drop 24), List.all_append, w_t6, ← List.take_append_drop 24 ((((((words1.drop 24).drop 24).drop 24).drop 24).drop 24).drop 24), List.all_append, w_t7, ← List.take_append_drop 24 (((((((words1.drop 24).drop 24).drop 24).drop 24).drop 24).drop 24).drop 24), List.all_append, w_t8, ← List.take_append_drop 24 ((((((((words1.drop 24).drop 24).drop 24).drop 24).drop 24).drop 24).drop 24).drop 24), List.all_append, w_t9, ← List.take_append_drop 24 (((((((((words1.drop 24).drop 24).drop 24).drop 24).drop 24).drop 24).drop 24).drop 24).drop 24), List.all_append, w_t10, ← List.take_append_drop 24 ((((((((((words1.drop 24).drop 24).drop 24).drop 24).drop 24).drop 24).drop 24).drop 24).drop 24).drop 24), List.all_append, w_t11, w_t12]
  rfl
set_option maxRecDepth 65536 in
theorem w_rest : rest_1_c.before args0 about1 = true := by decide +kernel
set_option maxRecDepth 65536 in
theorem w_case : (Jvm.Cond.and given_1 narrow_1).before args0 about1 = true := by decide +kernel
set_option maxRecDepth 65536 in
theorem w_consts : constsHeld consts_1 about1 := Jvm.Lit.constsHeldB_iff.mp (by decide +kernel)
theorem w_applies : (headSpec (Jvm.Cond.code x code maxLocals ret :: tables_1) room_1).applies x e0.platform about1 = true :=
  (Spec.applies_iff w_frames).mpr ⟨w_running, w_runnable, w_alone, w_named, w_hears, w_ripe, w_room, w_tables⟩
theorem atStart : AtStart classFile x code maxLocals ret World_1 tables_1 room_1 Calls_1 rest_1 Pre_1 launch0 p0 e0 about1 theMethod args0 below0 :=
  ⟨lists_1, trivial, launch0.admits_env _ _ _, launch0.least_env, fairChoices_fair.cas, fairChoices_fair.clock, w_frames, w_args, w_heap, w_applies, ⟨w_consts, trivial⟩, w_rest, w_case⟩
end start1
theorem witness_1 : WitnessClaimed_1 := ⟨start1.p0, start1.e0, start1.about1, start1.theMethod, start1.args0, start1.below0, start1.atStart⟩
end Jvm.Pilot.@@N@@
